import JvmDerived
import JvmDerived.Pilot.@@N@@Statement
import JvmDerived.Pilot.@@N@@Code
set_option linter.unusedVariables false
set_option linter.unusedSimpArgs false
namespace Jvm.RoadKit
open Sem ClassFile Op Lib Jvm.Stand Jvm.Free Jvm.LawKit
section New
variable {p : Program} {l : Launch} {e : Env} {R : Room} {s : State} {m : MethodId} {args : Array Value} {below : List Frame} {meth : Method} {c : Code} {T : State} {locs : List Loc} {cells slots : Nat}
theorem retI (X : Stand p l e R s m args below meth c T locs cells slots) (hx : p.tables.exec = Jvm.exec) {pc : Nat} {Ls : Array Slot} {z : Int32} {rest : List Value} (hret : meth.sig.returnType = some .int) (hd : decode c.code pc = .ok (.ireturn, 1)) {fs : List Frame}
    (hl : ∀ (f : JFrame) (acts : List Action), f.method = m → f.locked = none → f.entered = [] → (doReturn e (T.setTop f) acts (some (.int z))).1 = T.setFrames fs) : Steps p.tables e below (T.setTop (mkF m pc Ls (.int z :: rest))) (T.setFrames fs) := by
  have hm' : T.vm.method? m = some meth := X.method'
  have hn : narrow .int (.int z) = .int z := rfl
  show Steps p.tables e below (T.setTop { method := m, pc := pc, locals := Ls, stack := _ :: rest, locked := none }) _
  jvm_step X.here [X.here.top, hx, hd, hm', hret, hn]
  first | (intro acts; rw [hl _ acts rfl rfl rfl]) | rw [hl _ _ rfl rfl rfl]
  exact Steps.refl _
end New
end Jvm.RoadKit
namespace Jvm.Pilot.@@N@@
open Jvm Jvm.ClassFile Sem Op Lib Jvm.Free Jvm.Stand Jvm.LawKit Jvm.RoadKit Bundle Jvm.Pilot.@@N@@.Jvm.D
theorem hq {a0 : Array Value} {Z : State} (hw : ∀ d ∈ tables_1, d.before a0 Z = true) (i : Nat) {d : Jvm.Cond} (h : tables_1[i]? = some d) : d.before a0 Z = true := hw _ (List.mem_of_getElem? h)
def Sts (Z : State) (cst : Int32) (fv : Value) : Prop := Sta Z Z.heap "java/lang/String" "COMPACT_STRINGS" "Z" (.int cst) ∧ ¬ (cst = (0 : Int32)) ∧ True ∧ True ∧ True ∧ Sta Z Z.heap "jdk/internal/util/Preconditions" "SIOOBE_FORMATTER" "Ljava/util/function/BiFunction;" fv ∧ fv.isRef = true
theorem own_narc (k : Int32) (h : 0 ≤ k.toInt ∧ k.toInt ≤ 65535) : nar .char k = k := by
  show k.toUInt32.toUInt16.toUInt32.toInt32 = k
  have c1 := c_i2c k
  exact Int32.toInt_inj.mp (by omega)
theorem own_narc2 (x : Int32) : 0 ≤ (nar .char x).toInt ∧ (nar .char x).toInt ≤ 65535 := by
  have c1 := c_i2c x
  exact ⟨c1.2.1, by have := c1.2.2; show (x.toUInt32.toUInt16.toUInt32.toInt32).toInt ≤ 65535; omega⟩

theorem own_lit (k : Int32) : True := trivial
theorem d22_0 : decode jdk_41_method_11_code 0 = .ok (.iload_n 0, 1) := by decide +kernel
theorem d22_1 : decode jdk_41_method_11_code 1 = .ok (.ifCond .lt 8, 3) := by decide +kernel
theorem d22_4 : decode jdk_41_method_11_code 4 = .ok (.iload_n 0, 1) := by decide +kernel
theorem d22_5 : decode jdk_41_method_11_code 5 = .ok (.iload_n 1, 1) := by decide +kernel
theorem d22_6 : decode jdk_41_method_11_code 6 = .ok (.if_icmp .lt 10, 3) := by decide +kernel
theorem d22_16 : decode jdk_41_method_11_code 16 = .ok (.iload_n 0, 1) := by decide +kernel
theorem d22_17 : decode jdk_41_method_11_code 17 = .ok (.ireturn, 1) := by decide +kernel
def Q22 (Z : State) (p0 : Int32) (p1 : Int32) (fv : Value) (h0 : Heap) (n0 : Nat) (v : Option Value) (h : Heap) (L : List Loc) : Prop := v = some (.int p0) ∧ Fr n0 L ∧ h = h0
theorem ef_rm22 (m : MethodId) (x0 : Int32) (x1 : Int32) (x2 : Value) (hcat2 : x2.category = 1) : entryFrame m #[(.int x0), (.int x1), x2] 3 = mkF m 0 #[.val (.int x0), .val (.int x1), .val x2] [] := by cases x2 <;> first | (rfl) | (exfalso; simp [Value.category] at hcat2)
theorem pnc_jdk_internal_util_Preconditions : plainName "jdk/internal/util/Preconditions" = true := by first | (simp [plainName, overriddenIn]; done) | decide +kernel
set_option maxRecDepth 65536 in
set_option maxHeartbeats 40000000 in
theorem rm22 (l : Launch) (Z : State) (a0 : Array Value) (hw : ∀ d ∈ tables_1, d.before a0 Z = true) (ws : List Jvm.Cond) (p0 : Int32) (p1 : Int32) (fv : Value) (h0 : Heap) (n0 : Nat) (Z0 : n0 ≤ h0.size) (hlo : ¬ (p0 < (0 : Int32))) (hhi : p0 < p1) (hfv : fv.isRef = true) :
  MetFree l (⟨"jdk/internal/util/Preconditions", "checkIndex", "(IILjava/util/function/BiFunction;)I"⟩ : MethodName) (head1 (Jvm.Cond.code (⟨"jdk/internal/util/Preconditions", "checkIndex", "(IILjava/util/function/BiFunction;)I"⟩ : MethodName) jdk_41_method_11_code 3 (some .int) :: ws) ({ frames := 0, cells := 0, slots := 0, locals := 0 } : Room)) (fun a U => a = #[(.int p0), (.int p1), fv] ∧ Z.Warmed39 U.vm ∧ U.heap = h0) (fun _ _ _ _ _ => True) (fun _ U o U' => ∃ v L, o = .returned v ∧ Q22 Z p0 p1 fv h0 n0 v U'.heap L ∧ FrameEnd U o U' L ({ frames := 0, cells := 0, slots := 0, locals := 0 } : Room).cells ({ frames := 0, cells := 0, slots := 0, locals := 0 } : Room).slots) := by
 refine MetFree.of_bodySF (plainFor_of_name pnc_jdk_internal_util_Preconditions) hisR ?_
 intro p e s m args below meth c s₁ Bd hml0 hP hK
 obtain ⟨rfl, hZ, hh⟩ := hP
 have hx := Bd.exec
 have hby := Bd.bytes
 have hml : c.maxLocals = 3 := hml0
 have hown : s.vm.findClass "jdk/internal/util/Preconditions" = some m.cls := findClass_of_methodNamed Bd.named
 have hnm := (name_of_methodNamed Bd.named Bd.method).1
 have X0 : Stand p l e ({ frames := 0, cells := 0, slots := 0, locals := 0 } : Room) s m #[(.int p0), (.int p1), fv] below meth c s₁ [] 0 0 := Stand.of_body Bd
 have e0 : s₁.heap = h0 := by rw [← hh, Bd.state]; rfl
 have N0 := Fr.nil n0
 have kp0 : Keep h0 h0 [] := Keep.refl _ _
 have G0 : ∀ t, Steps p.tables e below (s₁.setTop (mkF m 0 #[iv p0, iv p1, .val fv] [])) t → Steps p.tables e below (s₁.setTop (entryFrame m #[(.int p0), (.int p1), fv] 3)) t := fun t k => castTop (ef_rm22 m p0 p1 fv (Jvm.Free.XT.cat1 hfv)) k
 have G1 : ∀ t, Steps p.tables e below (s₁.setTop (mkF m 1 #[iv p0, iv p1, .val fv] [(.int p0)])) t → Steps p.tables e below (s₁.setTop (entryFrame m #[(.int p0), (.int p1), fv] 3)) t := by
  intro t kt
  refine G0 _ ?_
  refine XS.iloadN X0.here hx rfl (hb hby d22_0) rfl ?_
  exact kt
 have hc1_2 : ¬ (p0 < (0 : Int32)) := hlo
 have G3 : ∀ t, Steps p.tables e below (s₁.setTop (mkF m 6 #[iv p0, iv p1, .val fv] [(.int p1), (.int p0)])) t → Steps p.tables e below (s₁.setTop (entryFrame m #[(.int p0), (.int p1), fv] 3)) t := by
  intro t kt
  refine G1 _ ?_
  refine XS.ifNo X0.here hx rfl (hb hby d22_1) rfl ((if0 _ _).trans (flt hc1_2).1) ?_
  refine XS.iloadN X0.here hx rfl (hb hby d22_4) rfl ?_
  refine XS.iloadN X0.here hx rfl (hb hby d22_5) rfl ?_
  exact kt
 have hc6_4 : p0 < p1 := hhi
 obtain ⟨fs, hr, hrun, hended, hW, hsame⟩ := X0.leave (v := some (.int p0)) (fun h => by rw [Bd.returns] at h; cases h)
 refine ⟨_, _, G3 _ ?_, hrun, hended, _, _, rfl, ?_, ⟨_, rfl⟩, hW, hsame.mono (by decide) (by decide)⟩
 ·skip
  refine XS.icmpYes X0.here hx rfl (pc0 := 6) (pc' := 16) rfl (hb hby d22_6) rfl (tlt hc6_4).1 (by decide) (by decide) ?_
  refine XS.iloadN X0.here hx rfl (hb hby d22_16) rfl ?_
  exact retI X0 hx Bd.returns (hb hby d22_17) hr
 ·show Q22 Z p0 p1 fv h0 n0 _ s₁.heap _
  rw [e0]
  exact ⟨rfl, N0, rfl⟩
theorem d21_0 : decode jdk_42_method_155_code 0 = .ok (.iload_n 0, 1) := by decide +kernel
theorem d21_1 : decode jdk_42_method_155_code 1 = .ok (.iload_n 1, 1) := by decide +kernel
theorem d21_2 : decode jdk_42_method_155_code 2 = .ok (.getstatic 1053, 3) := by decide +kernel
theorem d21_5 : decode jdk_42_method_155_code 5 = .ok (.invokestatic 1059, 3) := by decide +kernel
theorem pd_0 : parseMethodDescriptor "(IILjava/util/function/BiFunction;)I" = some ⟨[.int, .int, (.object "java/util/function/BiFunction")], some .int⟩ := by decide +kernel
theorem d21_8 : decode jdk_42_method_155_code 8 = .ok (.pop, 1) := by decide +kernel
theorem d21_9 : decode jdk_42_method_155_code 9 = .ok (.return_, 1) := by decide +kernel
def Q21 (Z : State) (p0 : Int32) (p1 : Int32) (cst : Int32) (fv : Value) (h0 : Heap) (n0 : Nat) (v : Option Value) (h : Heap) (L : List Loc) : Prop := v = none ∧ Fr n0 L ∧ h = h0
theorem ef_rm21 (m : MethodId) (x0 : Int32) (x1 : Int32) : entryFrame m #[(.int x0), (.int x1)] 2 = mkF m 0 #[.val (.int x0), .val (.int x1)] [] := by first | (simp [entryFrame, mkF, argsToLocals, Value.category]; done) | rfl
theorem pnc_java_lang_String : plainName "java/lang/String" = true := by first | (simp [plainName, overriddenIn]; done) | decide +kernel
set_option maxRecDepth 65536 in
set_option maxHeartbeats 40000000 in
theorem rm21 (l : Launch) (Z : State) (a0 : Array Value) (hw : ∀ d ∈ tables_1, d.before a0 Z = true) (ws : List Jvm.Cond) (p0 : Int32) (p1 : Int32) (cst : Int32) (fv : Value) (h0 : Heap) (n0 : Nat) (Z0 : n0 ≤ h0.size) (O0 : Old Z n0 h0) (hlo : ¬ (p0 < (0 : Int32))) (hhi : p0 < p1) (SS : Sts Z cst fv) :
  MetFree l (⟨"java/lang/String", "checkIndex", "(II)V"⟩ : MethodName) (head1 (Jvm.Cond.code (⟨"java/lang/String", "checkIndex", "(II)V"⟩ : MethodName) jdk_42_method_155_code 2 none :: ws) ({ frames := 1, cells := 0, slots := 0, locals := 14 } : Room)) (fun a U => a = #[(.int p0), (.int p1)] ∧ Z.Warmed39 U.vm ∧ U.heap = h0) (fun _ _ _ _ _ => True) (fun _ U o U' => ∃ v L, o = .returned v ∧ Q21 Z p0 p1 cst fv h0 n0 v U'.heap L ∧ FrameEnd U o U' L ({ frames := 1, cells := 0, slots := 0, locals := 14 } : Room).cells ({ frames := 1, cells := 0, slots := 0, locals := 14 } : Room).slots) := by
 refine MetFree.of_bodySF (plainFor_of_name pnc_java_lang_String) hisR ?_
 intro p e s m args below meth c s₁ Bd hml0 hP hK
 obtain ⟨rfl, hZ, hh⟩ := hP
 have hx := Bd.exec
 have hby := Bd.bytes
 have hml : c.maxLocals = 2 := hml0
 have hown : s.vm.findClass "java/lang/String" = some m.cls := findClass_of_methodNamed Bd.named
 have hnm := (name_of_methodNamed Bd.named Bd.method).1
 have X0 : Stand p l e ({ frames := 1, cells := 0, slots := 0, locals := 14 } : Room) s m #[(.int p0), (.int p1)] below meth c s₁ [] 0 0 := Stand.of_body Bd
 have e0 : s₁.heap = h0 := by rw [← hh, Bd.state]; rfl
 have N0 := Fr.nil n0
 have kp0 : Keep h0 h0 [] := Keep.refl _ _
 have G0 : ∀ t, Steps p.tables e below (s₁.setTop (mkF m 0 #[iv p0, iv p1] [])) t → Steps p.tables e below (s₁.setTop (entryFrame m #[(.int p0), (.int p1)] 2)) t := fun t k => castTop (ef_rm21 m p0 p1) k
 obtain ⟨T1, X1, e1, st1⟩ := getS2 X0 hx hZ hown (host := "") (Or.inl (hq hw 107 rfl)) Via.refl e0 (SS.2.2.2.2.2.1.ext O0.2) (g := (mkF m 2 #[iv p0, iv p1] [(.int p1), (.int p0)])) rfl (hb hby d21_2)
 obtain ⟨_, _, ⟨T2, L2, k2, n2⟩, -, X2, ⟨Lc2, hQ2, l2, y2, z2⟩, st2⟩ := Jvm.LawKit.callS X1 hx (y := (⟨"jdk/internal/util/Preconditions", "checkIndex", "(IILjava/util/function/BiFunction;)I"⟩ : MethodName)) hown (mvT hZ (hq hw 109 rfl)) (mvT hZ (hq hw 110 rfl)) (mvT hZ (hq hw 108 rfl)) (mvT hZ (hq hw 111 rfl)) (by decide) (backOf (W := 0) (rm22 l Z a0 hw [] p0 p1 fv  h0 n0 Z0 hlo hhi SS.2.2.2.2.2.2) hZ (hq hw 111 rfl) (hq hw 108 rfl) (by decide) (by decide)) (g := (mkF m 5 #[iv p0, iv p1] [fv, (.int p1), (.int p0)])) rfl (by rw [hml]; rfl) (argsL := [(.int p0), (.int p1), fv]) (rest := []) (lenOf pd_0 rfl) rfl (by show 2 * 0 + _ ≤ _; exact Nat.le_of_eq rfl) (hb hby d21_5) (fun _ _ => ⟨rfl, e1, (by decide : 0 + 0 ≤ _), (by decide : 0 + 0 ≤ _)⟩)
 dsimp only [Pt.U, Pt.locs, Pt.cells, Pt.slots] at X2 l2 y2 z2 st2 hQ2
 subst l2 y2 z2
 obtain ⟨rfl, N2q, eh2⟩ := hQ2
 have N2 := Fr.app N0 N2q
 obtain ⟨fs, hr, hrun, hended, hW, hsame⟩ := X2.leave (v := none) (fun _ => rfl)
 refine ⟨_, _, G0 _ ?_, hrun, hended, _, _, rfl, ?_, ⟨_, rfl⟩, hW, hsame.mono (by decide) (by decide)⟩
 ·skip
  refine XS.iloadN X0.here hx rfl (hb hby d21_0) rfl ?_
  refine XS.iloadN X0.here hx rfl (hb hby d21_1) rfl ?_
  refine st1 _ ?_
  refine st2 _ ?_
  refine XS.pop X2.here hx rfl (hb hby d21_8) rfl rfl ?_
  exact X2.returnOut hx Bd.returns (hb hby d21_9) hr
 ·show Q21 Z p0 p1 cst fv h0 n0 _ T2.heap _
  rw [eh2]
  exact ⟨rfl, N2, rfl⟩
theorem d17_0 : decode jdk_42_method_152_code 0 = .ok (.getstatic 38, 3) := by decide +kernel
theorem d17_3 : decode jdk_42_method_152_code 3 = .ok (.ifCond .eq 10, 3) := by decide +kernel
theorem d17_6 : decode jdk_42_method_152_code 6 = .ok (.aload_n 0, 1) := by decide +kernel
theorem d17_7 : decode jdk_42_method_152_code 7 = .ok (.getfield 15, 3) := by decide +kernel
theorem d17_10 : decode jdk_42_method_152_code 10 = .ok (.goto 4, 3) := by decide +kernel
theorem d17_14 : decode jdk_42_method_152_code 14 = .ok (.ireturn, 1) := by decide +kernel
def fcoder (cd : Int32) : Int32 := nar .byte cd
def Q17 (Z : State) (r0 : Addr) (cd : Int32) (cst : Int32) (fv : Value) (h0 : Heap) (n0 : Nat) (v : Option Value) (h : Heap) (L : List Loc) : Prop := v = some (.int (fcoder cd)) ∧ Fr n0 L ∧ h = h0
theorem ef_rm17 (m : MethodId) (x0 : Addr) : entryFrame m #[(.ref x0)] 1 = mkF m 0 #[.val (.ref x0)] [] := by first | (simp [entryFrame, mkF, argsToLocals, Value.category]; done) | rfl
set_option maxRecDepth 65536 in
set_option maxHeartbeats 40000000 in
theorem rm17 (l : Launch) (Z : State) (a0 : Array Value) (hw : ∀ d ∈ tables_1, d.before a0 Z = true) (ws : List Jvm.Cond) (r0 : Addr) (cd : Int32) (cst : Int32) (fv : Value) (h0 : Heap) (n0 : Nat) (Z0 : n0 ≤ h0.size) (Fc : Fld Z h0 r0 "java/lang/String" "coder" "B" (.int cd)) (O0 : Old Z n0 h0) (SS : Sts Z cst fv) :
  MetFree l (⟨"java/lang/String", "coder", "()B"⟩ : MethodName) (head1 (Jvm.Cond.code (⟨"java/lang/String", "coder", "()B"⟩ : MethodName) jdk_42_method_152_code 1 (some .byte) :: ws) ({ frames := 0, cells := 0, slots := 0, locals := 0 } : Room)) (fun a U => a = #[(.ref r0)] ∧ Z.Warmed39 U.vm ∧ U.heap = h0) (fun _ _ _ _ _ => True) (fun _ U o U' => ∃ v L, o = .returned v ∧ Q17 Z r0 cd cst fv h0 n0 v U'.heap L ∧ FrameEnd U o U' L ({ frames := 0, cells := 0, slots := 0, locals := 0 } : Room).cells ({ frames := 0, cells := 0, slots := 0, locals := 0 } : Room).slots) := by
 refine MetFree.of_bodySF (plainFor_of_name pnc_java_lang_String) hisR ?_
 intro p e s m args below meth c s₁ Bd hml0 hP hK
 obtain ⟨rfl, hZ, hh⟩ := hP
 have hx := Bd.exec
 have hby := Bd.bytes
 have hml : c.maxLocals = 1 := hml0
 have hown : s.vm.findClass "java/lang/String" = some m.cls := findClass_of_methodNamed Bd.named
 have hnm := (name_of_methodNamed Bd.named Bd.method).1
 have X0 : Stand p l e ({ frames := 0, cells := 0, slots := 0, locals := 0 } : Room) s m #[(.ref r0)] below meth c s₁ [] 0 0 := Stand.of_body Bd
 have e0 : s₁.heap = h0 := by rw [← hh, Bd.state]; rfl
 have N0 := Fr.nil n0
 have kp0 : Keep h0 h0 [] := Keep.refl _ _
 have G0 : ∀ t, Steps p.tables e below (s₁.setTop (mkF m 0 #[rv r0] [])) t → Steps p.tables e below (s₁.setTop (entryFrame m #[(.ref r0)] 1)) t := fun t k => castTop (ef_rm17 m r0) k
 obtain ⟨T1, X1, e1, st1⟩ := getS2 X0 hx hZ hown (host := "") (Or.inl (hq hw 89 rfl)) Via.refl e0 (SS.1.ext O0.2) (g := (mkF m 0 #[rv r0] [])) rfl (hb hby d17_0)
 have G2 : ∀ t, Steps p.tables e below (T1.setTop (mkF m 3 #[rv r0] [(.int cst)])) t → Steps p.tables e below (s₁.setTop (entryFrame m #[(.ref r0)] 1)) t := by
  intro t kt
  refine G0 _ ?_
  refine st1 _ ?_
  exact kt
 have hc3_3 : ¬ (cst = (0 : Int32)) := SS.2.1
 obtain ⟨T4, X4, e4, st4⟩ := getF X1 hx hZ hown (host := "") (Or.inl (hq hw 65 rfl)) Via.refl e1 Fc (g := (mkF m 7 #[rv r0] [(.ref r0)])) rfl rfl (hb hby d17_7)
 obtain ⟨fs, hr, hrun, hended, hW, hsame⟩ := X4.leave (v := some (.int (nar .byte cd))) (fun h => by rw [Bd.returns] at h; cases h)
 refine ⟨_, _, G2 _ ?_, hrun, hended, _, _, rfl, ?_, ⟨_, rfl⟩, hW, hsame.mono (by decide) (by decide)⟩
 ·skip
  refine XS.ifNo X1.here hx rfl (hb hby d17_3) rfl ((if0 _ _).trans (feq hc3_3).1) ?_
  refine XS.aloadN X1.here hx rfl (hb hby d17_6) rfl rfl ?_
  refine st4 _ ?_
  refine XS.goto X4.here hx rfl (pc0 := 10) (pc' := 14) rfl (hb hby d17_10) (by decide) (by decide) ?_
  exact retN X4 hx (t := .byte) Bd.returns (by simp) (hb hby d17_14) hr
 ·show Q17 Z r0 cd cst fv h0 n0 _ T4.heap _
  rw [e4]
  exact ⟨by rw [fcoder], N0, rfl⟩
theorem d19_0 : decode jdk_42_method_154_code 0 = .ok (.getstatic 38, 3) := by decide +kernel
theorem d19_3 : decode jdk_42_method_154_code 3 = .ok (.ifCond .eq 14, 3) := by decide +kernel
theorem d19_6 : decode jdk_42_method_154_code 6 = .ok (.aload_n 0, 1) := by decide +kernel
theorem d19_7 : decode jdk_42_method_154_code 7 = .ok (.getfield 15, 3) := by decide +kernel
theorem d19_10 : decode jdk_42_method_154_code 10 = .ok (.ifCond .ne 7, 3) := by decide +kernel
theorem d19_13 : decode jdk_42_method_154_code 13 = .ok (.iconst 1, 1) := by decide +kernel
theorem d19_14 : decode jdk_42_method_154_code 14 = .ok (.goto 4, 3) := by decide +kernel
theorem d19_18 : decode jdk_42_method_154_code 18 = .ok (.ireturn, 1) := by decide +kernel
theorem d19_17 : decode jdk_42_method_154_code 17 = .ok (.iconst 0, 1) := by decide +kernel
def fisLatin1 (cd : Int32) : Int32 := if cd = (0 : Int32) then ((1 : Int32)) else ((0 : Int32))
def Q19 (Z : State) (r0 : Addr) (cd : Int32) (cst : Int32) (fv : Value) (h0 : Heap) (n0 : Nat) (v : Option Value) (h : Heap) (L : List Loc) : Prop := v = some (.int (fisLatin1 cd)) ∧ Fr n0 L ∧ h = h0
theorem ef_rm19 (m : MethodId) (x0 : Addr) : entryFrame m #[(.ref x0)] 1 = mkF m 0 #[.val (.ref x0)] [] := by first | (simp [entryFrame, mkF, argsToLocals, Value.category]; done) | rfl
set_option maxRecDepth 65536 in
set_option maxHeartbeats 40000000 in
theorem rm19 (l : Launch) (Z : State) (a0 : Array Value) (hw : ∀ d ∈ tables_1, d.before a0 Z = true) (ws : List Jvm.Cond) (r0 : Addr) (cd : Int32) (cst : Int32) (fv : Value) (h0 : Heap) (n0 : Nat) (Z0 : n0 ≤ h0.size) (Fc : Fld Z h0 r0 "java/lang/String" "coder" "B" (.int cd)) (O0 : Old Z n0 h0) (SS : Sts Z cst fv) :
  MetFree l (⟨"java/lang/String", "isLatin1", "()Z"⟩ : MethodName) (head1 (Jvm.Cond.code (⟨"java/lang/String", "isLatin1", "()Z"⟩ : MethodName) jdk_42_method_154_code 1 (some .boolean) :: ws) ({ frames := 0, cells := 0, slots := 0, locals := 0 } : Room)) (fun a U => a = #[(.ref r0)] ∧ Z.Warmed39 U.vm ∧ U.heap = h0) (fun _ _ _ _ _ => True) (fun _ U o U' => ∃ v L, o = .returned v ∧ Q19 Z r0 cd cst fv h0 n0 v U'.heap L ∧ FrameEnd U o U' L ({ frames := 0, cells := 0, slots := 0, locals := 0 } : Room).cells ({ frames := 0, cells := 0, slots := 0, locals := 0 } : Room).slots) := by
 refine MetFree.of_bodySF (plainFor_of_name pnc_java_lang_String) hisR ?_
 intro p e s m args below meth c s₁ Bd hml0 hP hK
 obtain ⟨rfl, hZ, hh⟩ := hP
 have hx := Bd.exec
 have hby := Bd.bytes
 have hml : c.maxLocals = 1 := hml0
 have hown : s.vm.findClass "java/lang/String" = some m.cls := findClass_of_methodNamed Bd.named
 have hnm := (name_of_methodNamed Bd.named Bd.method).1
 have X0 : Stand p l e ({ frames := 0, cells := 0, slots := 0, locals := 0 } : Room) s m #[(.ref r0)] below meth c s₁ [] 0 0 := Stand.of_body Bd
 have e0 : s₁.heap = h0 := by rw [← hh, Bd.state]; rfl
 have N0 := Fr.nil n0
 have kp0 : Keep h0 h0 [] := Keep.refl _ _
 have G0 : ∀ t, Steps p.tables e below (s₁.setTop (mkF m 0 #[rv r0] [])) t → Steps p.tables e below (s₁.setTop (entryFrame m #[(.ref r0)] 1)) t := fun t k => castTop (ef_rm19 m r0) k
 obtain ⟨T1, X1, e1, st1⟩ := getS2 X0 hx hZ hown (host := "") (Or.inl (hq hw 89 rfl)) Via.refl e0 (SS.1.ext O0.2) (g := (mkF m 0 #[rv r0] [])) rfl (hb hby d19_0)
 have G2 : ∀ t, Steps p.tables e below (T1.setTop (mkF m 3 #[rv r0] [(.int cst)])) t → Steps p.tables e below (s₁.setTop (entryFrame m #[(.ref r0)] 1)) t := by
  intro t kt
  refine G0 _ ?_
  refine st1 _ ?_
  exact kt
 have hc3_3 : ¬ (cst = (0 : Int32)) := SS.2.1
 obtain ⟨T4, X4, e4, st4⟩ := getF X1 hx hZ hown (host := "") (Or.inl (hq hw 65 rfl)) Via.refl e1 Fc (g := (mkF m 7 #[rv r0] [(.ref r0)])) rfl rfl (hb hby d19_7)
 have G5 : ∀ t, Steps p.tables e below (T4.setTop (mkF m 10 #[rv r0] [(.int cd)])) t → Steps p.tables e below (s₁.setTop (entryFrame m #[(.ref r0)] 1)) t := by
  intro t kt
  refine G2 _ ?_
  refine XS.ifNo X1.here hx rfl (hb hby d19_3) rfl ((if0 _ _).trans (feq hc3_3).1) ?_
  refine XS.aloadN X1.here hx rfl (hb hby d19_6) rfl rfl ?_
  refine st4 _ ?_
  exact kt
 by_cases hc10_6 : cd = (0 : Int32)
 ·skip
  obtain ⟨fs, hr, hrun, hended, hW, hsame⟩ := X4.leave (v := some (.int (1 : Int32))) (fun h => by rw [Bd.returns] at h; cases h)
  refine ⟨_, _, G5 _ ?_, hrun, hended, _, _, rfl, ?_, ⟨_, rfl⟩, hW, hsame.mono (by decide) (by decide)⟩
  ·skip
   refine XS.ifNo X4.here hx rfl (hb hby d19_10) rfl ((if0 _ _).trans (teq hc10_6).2) ?_
   refine XS.iconst X4.here hx rfl (hb hby d19_13) ?_
   refine XS.goto X4.here hx rfl (pc0 := 14) (pc' := 18) rfl (hb hby d19_14) (by decide) (by decide) ?_
   exact retN X4 hx (t := .boolean) Bd.returns (by simp) (hb hby d19_18) hr
  ·show Q19 Z r0 cd cst fv h0 n0 _ T4.heap _
   rw [e4]
   exact ⟨by rw [fisLatin1, if_pos hc10_6], N0, rfl⟩
 ·skip
  obtain ⟨fs, hr, hrun, hended, hW, hsame⟩ := X4.leave (v := some (.int (0 : Int32))) (fun h => by rw [Bd.returns] at h; cases h)
  refine ⟨_, _, G5 _ ?_, hrun, hended, _, _, rfl, ?_, ⟨_, rfl⟩, hW, hsame.mono (by decide) (by decide)⟩
  ·skip
   refine XS.ifYes X4.here hx rfl (pc0 := 10) (pc' := 17) rfl (hb hby d19_10) rfl ((if0 _ _).trans (feq hc10_6).2) (by decide) (by decide) ?_
   refine XS.iconst X4.here hx rfl (hb hby d19_17) ?_
   exact retN X4 hx (t := .boolean) Bd.returns (by simp) (hb hby d19_18) hr
  ·show Q19 Z r0 cd cst fv h0 n0 _ T4.heap _
   rw [e4]
   exact ⟨by rw [fisLatin1, if_neg hc10_6], N0, rfl⟩
theorem d16_0 : decode jdk_42_method_54_code 0 = .ok (.aload_n 0, 1) := by decide +kernel
theorem d16_1 : decode jdk_42_method_54_code 1 = .ok (.getfield 9, 3) := by decide +kernel
theorem d16_4 : decode jdk_42_method_54_code 4 = .ok (.arraylength, 1) := by decide +kernel
theorem d16_5 : decode jdk_42_method_54_code 5 = .ok (.aload_n 0, 1) := by decide +kernel
theorem d16_6 : decode jdk_42_method_54_code 6 = .ok (.invokevirtual 335, 3) := by decide +kernel
theorem pd_1 : parseMethodDescriptor "()B" = some ⟨[], some .byte⟩ := by decide +kernel
theorem d16_9 : decode jdk_42_method_54_code 9 = .ok (.ishr, 1) := by decide +kernel
theorem d16_10 : decode jdk_42_method_54_code 10 = .ok (.ireturn, 1) := by decide +kernel
def Q16 (Z : State) (r0 : Addr) (cd : Int32) (ta : Addr) (kk : ClassId) (nn : Int32) (vs : List Value) (r : Int32) (cst : Int32) (fv : Value) (h0 : Heap) (n0 : Nat) (v : Option Value) (h : Heap) (L : List Loc) : Prop := v = some (.int r) ∧ Fr n0 L ∧ h = h0
theorem ef_rm16 (m : MethodId) (x0 : Addr) : entryFrame m #[(.ref x0)] 1 = mkF m 0 #[.val (.ref x0)] [] := by first | (simp [entryFrame, mkF, argsToLocals, Value.category]; done) | rfl
set_option maxRecDepth 65536 in
set_option maxHeartbeats 40000000 in
theorem rm16 (l : Launch) (Z : State) (a0 : Array Value) (hw : ∀ d ∈ tables_1, d.before a0 Z = true) (ws : List Jvm.Cond) (r0 : Addr) (cd : Int32) (ta : Addr) (kk : ClassId) (nn : Int32) (vs : List Value) (r : Int32) (cst : Int32) (fv : Value) (h0 : Heap) (n0 : Nat) (Z0 : n0 ≤ h0.size) (E0 : Exa Z h0 r0 "java/lang/String") (Fc : Fld Z h0 r0 "java/lang/String" "coder" "B" (.int cd)) (Fv : Fld Z h0 r0 "java/lang/String" "value" "[B" (.ref ta)) (V0 : Arv Z h0 ta kk .byte nn vs (.int (0 : Int32))) (O0 : Old Z n0 h0) (hres : (nn >>> ((fcoder cd) &&& 31)) = r) (SS : Sts Z cst fv) :
  MetFree l (⟨"java/lang/String", "length", "()I"⟩ : MethodName) (head1 (Jvm.Cond.code (⟨"java/lang/String", "length", "()I"⟩ : MethodName) jdk_42_method_54_code 1 (some .int) :: ws) ({ frames := 1, cells := 0, slots := 0, locals := 13 } : Room)) (fun a U => a = #[(.ref r0)] ∧ Z.Warmed39 U.vm ∧ U.heap = h0) (fun _ _ _ _ _ => True) (fun _ U o U' => ∃ v L, o = .returned v ∧ Q16 Z r0 cd ta kk nn vs r cst fv h0 n0 v U'.heap L ∧ FrameEnd U o U' L ({ frames := 1, cells := 0, slots := 0, locals := 13 } : Room).cells ({ frames := 1, cells := 0, slots := 0, locals := 13 } : Room).slots) := by
 refine MetFree.of_bodySF (plainFor_of_name pnc_java_lang_String) hisR ?_
 intro p e s m args below meth c s₁ Bd hml0 hP hK
 obtain ⟨rfl, hZ, hh⟩ := hP
 have hx := Bd.exec
 have hby := Bd.bytes
 have hml : c.maxLocals = 1 := hml0
 have hown : s.vm.findClass "java/lang/String" = some m.cls := findClass_of_methodNamed Bd.named
 have hnm := (name_of_methodNamed Bd.named Bd.method).1
 have X0 : Stand p l e ({ frames := 1, cells := 0, slots := 0, locals := 13 } : Room) s m #[(.ref r0)] below meth c s₁ [] 0 0 := Stand.of_body Bd
 have e0 : s₁.heap = h0 := by rw [← hh, Bd.state]; rfl
 have N0 := Fr.nil n0
 have kp0 : Keep h0 h0 [] := Keep.refl _ _
 have G0 : ∀ t, Steps p.tables e below (s₁.setTop (mkF m 0 #[rv r0] [])) t → Steps p.tables e below (s₁.setTop (entryFrame m #[(.ref r0)] 1)) t := fun t k => castTop (ef_rm16 m r0) k
 obtain ⟨T1, X1, e1, st1⟩ := getF X0 hx hZ hown (host := "") (Or.inl (hq hw 64 rfl)) Via.refl e0 Fv (g := (mkF m 1 #[rv r0] [(.ref r0)])) rfl rfl (hb hby d16_1)
 obtain ⟨cl2, Ar2, q2, S2, M2, H2, G2⟩ := id V0
 obtain ⟨cq3, kq3, q3a, q3b, q3c⟩ := isOf hZ e1 E0
 obtain ⟨_, _, ⟨T3, L3, k3, n3⟩, -, X3, ⟨Lc3, hQ3, l3, y3, z3⟩, st3⟩ := X1.virtualBack hx (y := (⟨"java/lang/String", "coder", "()B"⟩ : MethodName)) (z := (⟨"java/lang/String", "coder", "()B"⟩ : MethodName)) hown (mvT hZ (hq hw 84 rfl)) (mvT hZ (hq hw 85 rfl)) (notFace_of_selects (args := #[]) (mvT hZ (hq hw 87 rfl))) (mvT hZ (hq hw 87 rfl)) (mvT hZ (hq hw 86 rfl)) (by decide) (backOf (W := 1) (rm17 l Z a0 hw [] r0 cd cst fv h0 n0 Z0 Fc O0  SS) hZ (hq hw 88 rfl) (hq hw 6 rfl) (by decide) (by decide)) q3a q3c (g := (mkF m 6 #[rv r0] [(.ref r0), (.int nn)])) rfl (by rw [hml]; rfl) (Steps.refl _) (argsL := []) (rest := [(.int nn)]) (lenOf pd_1 rfl) rfl (by show 2 * 0 + _ ≤ _; exact Nat.le_of_eq rfl) (hb hby d16_6) (fun _ _ => ⟨rfl, e1, (by decide : 0 + 0 ≤ _), (by decide : 0 + 0 ≤ _)⟩)
 dsimp only [Pt.U, Pt.locs, Pt.cells, Pt.slots] at X3 l3 y3 z3 st3 hQ3
 subst l3 y3 z3
 obtain ⟨rfl, N3q, eh3⟩ := hQ3
 have N3 := Fr.app N0 N3q
 obtain ⟨fs, hr, hrun, hended, hW, hsame⟩ := X3.leave (v := some (.int (nn >>> ((fcoder cd) &&& 31)))) (fun h => by rw [Bd.returns] at h; cases h)
 refine ⟨_, _, G0 _ ?_, hrun, hended, _, _, rfl, ?_, ⟨_, rfl⟩, hW, hsame.mono (by decide) (by decide)⟩
 ·skip
  refine XS.aloadN X0.here hx rfl (hb hby d16_0) rfl rfl ?_
  refine st1 _ ?_
  refine X1.arraylength hx (by rw [e1]; exact Ar2.1) (State.isArrayOf_alike hZ.alike Ar2.2.1) (g := (mkF m 4 #[rv r0] [(.ref ta)])) rfl rfl (hb hby d16_4) _ ?_
  rw [len_of S2 M2]
  refine XS.aloadN X1.here hx rfl (hb hby d16_5) rfl rfl ?_
  refine st3.trans ?_
  refine XS.ishr X3.here hx rfl (hb hby d16_9) rfl ?_
  exact retI X3 hx Bd.returns (hb hby d16_10) hr
 ·show Q16 Z r0 cd ta kk nn vs r cst fv h0 n0 _ T3.heap _
  rw [eh3]
  exact ⟨by rw [hres], N3, rfl⟩
theorem d20_0 : decode jdk_43_method_2_code 0 = .ok (.iload_n 1, 1) := by decide +kernel
theorem d20_1 : decode jdk_43_method_2_code 1 = .ok (.aload_n 0, 1) := by decide +kernel
theorem d20_2 : decode jdk_43_method_2_code 2 = .ok (.arraylength, 1) := by decide +kernel
theorem d20_3 : decode jdk_43_method_2_code 3 = .ok (.invokestatic 9, 3) := by decide +kernel
theorem pd_2 : parseMethodDescriptor "(II)V" = some ⟨[.int, .int], none⟩ := by decide +kernel
theorem d20_6 : decode jdk_43_method_2_code 6 = .ok (.aload_n 0, 1) := by decide +kernel
theorem d20_7 : decode jdk_43_method_2_code 7 = .ok (.iload_n 1, 1) := by decide +kernel
theorem d20_8 : decode jdk_43_method_2_code 8 = .ok (.baload, 1) := by decide +kernel
theorem d20_9 : decode jdk_43_method_2_code 9 = .ok (.sipush 255, 3) := by decide +kernel
theorem d20_12 : decode jdk_43_method_2_code 12 = .ok (.iand, 1) := by decide +kernel
theorem d20_13 : decode jdk_43_method_2_code 13 = .ok (.i2c, 1) := by decide +kernel
theorem d20_14 : decode jdk_43_method_2_code 14 = .ok (.ireturn, 1) := by decide +kernel
def fchL (x : Int32) : Int32 := nar .char ((x &&& (255 : Int32)).toUInt32.toUInt16.toUInt32.toInt32)
def Q20 (Z : State) (r0 : Addr) (p1 : Int32) (kk : ClassId) (nn : Int32) (vs : List Value) (x : Int32) (cst : Int32) (fv : Value) (h0 : Heap) (n0 : Nat) (v : Option Value) (h : Heap) (L : List Loc) : Prop := v = some (.int (fchL x)) ∧ Fr n0 L ∧ h = h0
theorem ef_rm20 (m : MethodId) (x0 : Addr) (x1 : Int32) : entryFrame m #[(.ref x0), (.int x1)] 2 = mkF m 0 #[.val (.ref x0), .val (.int x1)] [] := by first | (simp [entryFrame, mkF, argsToLocals, Value.category]; done) | rfl
theorem pnc_java_lang_StringLatin1 : plainName "java/lang/StringLatin1" = true := by first | (simp [plainName, overriddenIn]; done) | decide +kernel
set_option maxRecDepth 65536 in
set_option maxHeartbeats 40000000 in
theorem rm20 (l : Launch) (Z : State) (a0 : Array Value) (hw : ∀ d ∈ tables_1, d.before a0 Z = true) (ws : List Jvm.Cond) (r0 : Addr) (p1 : Int32) (kk : ClassId) (nn : Int32) (vs : List Value) (x : Int32) (cst : Int32) (fv : Value) (h0 : Heap) (n0 : Nat) (Z0 : n0 ≤ h0.size) (V0 : Arv Z h0 r0 kk .byte nn vs (.int (0 : Int32))) (O0 : Old Z n0 h0) (hlo : ¬ (p1 < (0 : Int32))) (hhi : p1 < nn) (g0 : vs.getD (p1).toNatClampNeg (.int (0 : Int32)) = .int x) (SS : Sts Z cst fv) :
  MetFree l (⟨"java/lang/StringLatin1", "charAt", "([BI)C"⟩ : MethodName) (head1 (Jvm.Cond.code (⟨"java/lang/StringLatin1", "charAt", "([BI)C"⟩ : MethodName) jdk_43_method_2_code 2 (some .char) :: ws) ({ frames := 2, cells := 0, slots := 0, locals := 27 } : Room)) (fun a U => a = #[(.ref r0), (.int p1)] ∧ Z.Warmed39 U.vm ∧ U.heap = h0) (fun _ _ _ _ _ => True) (fun _ U o U' => ∃ v L, o = .returned v ∧ Q20 Z r0 p1 kk nn vs x cst fv h0 n0 v U'.heap L ∧ FrameEnd U o U' L ({ frames := 2, cells := 0, slots := 0, locals := 27 } : Room).cells ({ frames := 2, cells := 0, slots := 0, locals := 27 } : Room).slots) := by
 refine MetFree.of_bodySF (plainFor_of_name pnc_java_lang_StringLatin1) hisR ?_
 intro p e s m args below meth c s₁ Bd hml0 hP hK
 obtain ⟨rfl, hZ, hh⟩ := hP
 have hx := Bd.exec
 have hby := Bd.bytes
 have hml : c.maxLocals = 2 := hml0
 have hown : s.vm.findClass "java/lang/StringLatin1" = some m.cls := findClass_of_methodNamed Bd.named
 have hnm := (name_of_methodNamed Bd.named Bd.method).1
 have X0 : Stand p l e ({ frames := 2, cells := 0, slots := 0, locals := 27 } : Room) s m #[(.ref r0), (.int p1)] below meth c s₁ [] 0 0 := Stand.of_body Bd
 have e0 : s₁.heap = h0 := by rw [← hh, Bd.state]; rfl
 have N0 := Fr.nil n0
 have kp0 : Keep h0 h0 [] := Keep.refl _ _
 have G0 : ∀ t, Steps p.tables e below (s₁.setTop (mkF m 0 #[rv r0, iv p1] [])) t → Steps p.tables e below (s₁.setTop (entryFrame m #[(.ref r0), (.int p1)] 2)) t := fun t k => castTop (ef_rm20 m r0 p1) k
 obtain ⟨cl, Ar, qk, Sz, Mz, Hz, Gz⟩ := id V0
 have hin0 : ¬ (p1 < 0 ∨ cl.slots.size ≤ (p1).toNatClampNeg) := inb_of Sz ⟨hlo, hhi⟩
 have hat0 : cl.slots[(p1).toNatClampNeg]? = some (.int x) := Hz.at hin0 g0
 obtain ⟨cl1, Ar1, q1, S1, M1, H1, G1⟩ := id V0
 obtain ⟨_, _, ⟨T2, L2, k2, n2⟩, -, X2, ⟨Lc2, hQ2, l2, y2, z2⟩, st2⟩ := Jvm.LawKit.callS X0 hx (y := (⟨"java/lang/String", "checkIndex", "(II)V"⟩ : MethodName)) hown (mvT hZ (hq hw 104 rfl)) (mvT hZ (hq hw 105 rfl)) (mvT hZ (hq hw 6 rfl)) (mvT hZ (hq hw 106 rfl)) (by decide) (backOf (W := 0) (rm21 l Z a0 hw [] p1 nn  cst fv h0 n0 Z0  O0 hlo hhi SS) hZ (hq hw 106 rfl) (hq hw 6 rfl) (by decide) (by decide)) (g := (mkF m 3 #[rv r0, iv p1] [(.int nn), (.int p1)])) rfl (by rw [hml]; rfl) (argsL := [(.int p1), (.int nn)]) (rest := []) (lenOf pd_2 rfl) rfl (by show 2 * 0 + _ ≤ _; exact Nat.le_of_eq rfl) (hb hby d20_3) (fun _ _ => ⟨rfl, e0, (by decide : 0 + 0 ≤ _), (by decide : 0 + 0 ≤ _)⟩)
 dsimp only [Pt.U, Pt.locs, Pt.cells, Pt.slots] at X2 l2 y2 z2 st2 hQ2
 subst l2 y2 z2
 obtain ⟨rfl, N2q, eh2⟩ := hQ2
 have N2 := Fr.app N0 N2q
 obtain ⟨fs, hr, hrun, hended, hW, hsame⟩ := X2.leave (v := some (.int (nar .char ((x &&& (255 : Int32)).toUInt32.toUInt16.toUInt32.toInt32)))) (fun h => by rw [Bd.returns] at h; cases h)
 refine ⟨_, _, G0 _ ?_, hrun, hended, _, _, rfl, ?_, ⟨_, rfl⟩, hW, hsame.mono (by decide) (by decide)⟩
 ·skip
  refine XS.iloadN X0.here hx rfl (hb hby d20_0) rfl ?_
  refine XS.aloadN X0.here hx rfl (hb hby d20_1) rfl rfl ?_
  refine X0.arraylength hx (by rw [e0]; exact Ar1.1) (State.isArrayOf_alike hZ.alike Ar1.2.1) (g := (mkF m 2 #[rv r0, iv p1] [(.ref r0), (.int p1)])) rfl rfl (hb hby d20_2) _ ?_
  rw [len_of S1 M1]
  refine st2 _ ?_
  refine XS.aloadN X2.here hx rfl (hb hby d20_6) rfl rfl ?_
  refine XS.iloadN X2.here hx rfl (hb hby d20_7) rfl ?_
  refine X2.baloadBytes hx (j := p1) (v := (.int x)) (by rw [eh2]; exact Ar.1) (State.isArrayOf_alike hZ.alike Ar.2.1) Ar.2.2 hin0 hat0 (g := (mkF m 8 #[rv r0, iv p1] [(.int p1), (.ref r0)])) rfl rfl (hb hby d20_8) _ ?_
  refine XS.sipush X2.here hx rfl (hb hby d20_9) ?_
  refine XS.iand X2.here hx rfl (hb hby d20_12) rfl ?_
  refine XS.i2c X2.here hx rfl (hb hby d20_13) rfl ?_
  exact retN X2 hx (t := .char) Bd.returns (by simp) (hb hby d20_14) hr
 ·show Q20 Z r0 p1 kk nn vs x cst fv h0 n0 _ T2.heap _
  rw [eh2]
  exact ⟨by rw [fchL], N2, rfl⟩
theorem d18_0 : decode jdk_42_method_56_code 0 = .ok (.aload_n 0, 1) := by decide +kernel
theorem d18_1 : decode jdk_42_method_56_code 1 = .ok (.invokevirtual 492, 3) := by decide +kernel
theorem pd_3 : parseMethodDescriptor "()Z" = some ⟨[], some .boolean⟩ := by decide +kernel
theorem d18_4 : decode jdk_42_method_56_code 4 = .ok (.ifCond .eq 12, 3) := by decide +kernel
theorem d18_7 : decode jdk_42_method_56_code 7 = .ok (.aload_n 0, 1) := by decide +kernel
theorem d18_8 : decode jdk_42_method_56_code 8 = .ok (.getfield 9, 3) := by decide +kernel
theorem d18_11 : decode jdk_42_method_56_code 11 = .ok (.iload_n 1, 1) := by decide +kernel
theorem d18_12 : decode jdk_42_method_56_code 12 = .ok (.invokestatic 495, 3) := by decide +kernel
theorem pd_4 : parseMethodDescriptor "([BI)C" = some ⟨[(.array .byte), .int], some .char⟩ := by decide +kernel
theorem d18_15 : decode jdk_42_method_56_code 15 = .ok (.ireturn, 1) := by decide +kernel
def QChL (Z : State) (r0 : Addr) (p1 : Int32) (ta : Addr) (kk : ClassId) (nn : Int32) (vs : List Value) (x r : Int32) (cst : Int32) (fv : Value) (h0 : Heap) (n0 : Nat) (v : Option Value) (h : Heap) (L : List Loc) : Prop := v = some (.int r) ∧ Fr n0 L ∧ h = h0
theorem ef_rmChL (m : MethodId) (x0 : Addr) (x1 : Int32) : entryFrame m #[(.ref x0), (.int x1)] 2 = mkF m 0 #[.val (.ref x0), .val (.int x1)] [] := by first | (simp [entryFrame, mkF, argsToLocals, Value.category]; done) | rfl
set_option maxRecDepth 65536 in
set_option maxHeartbeats 40000000 in
theorem rmChL (l : Launch) (Z : State) (a0 : Array Value) (hw : ∀ d ∈ tables_1, d.before a0 Z = true) (ws : List Jvm.Cond) (r0 : Addr) (p1 : Int32) (ta : Addr) (kk : ClassId) (nn : Int32) (vs : List Value) (x r : Int32) (cst : Int32) (fv : Value) (h0 : Heap) (n0 : Nat) (Z0 : n0 ≤ h0.size) (E0 : Exa Z h0 r0 "java/lang/String") (Fc : Fld Z h0 r0 "java/lang/String" "coder" "B" (.int (0 : Int32))) (Fv : Fld Z h0 r0 "java/lang/String" "value" "[B" (.ref ta)) (V0 : Arv Z h0 ta kk .byte nn vs (.int (0 : Int32))) (O0 : Old Z n0 h0) (hlo : ¬ (p1 < (0 : Int32))) (hhi : p1 < nn) (g0 : vs.getD (p1).toNatClampNeg (.int (0 : Int32)) = .int x) (hres : nar .char (fchL x) = r) (SS : Sts Z cst fv) :
  MetFree l (⟨"java/lang/String", "charAt", "(I)C"⟩ : MethodName) (head1 (Jvm.Cond.code (⟨"java/lang/String", "charAt", "(I)C"⟩ : MethodName) jdk_42_method_56_code 2 (some .char) :: ws) ({ frames := 3, cells := 0, slots := 0, locals := 40 } : Room)) (fun a U => a = #[(.ref r0), (.int p1)] ∧ Z.Warmed39 U.vm ∧ U.heap = h0) (fun _ _ _ _ _ => True) (fun _ U o U' => ∃ v L, o = .returned v ∧ QChL Z r0 p1 ta kk nn vs x r cst fv h0 n0 v U'.heap L ∧ FrameEnd U o U' L ({ frames := 3, cells := 0, slots := 0, locals := 40 } : Room).cells ({ frames := 3, cells := 0, slots := 0, locals := 40 } : Room).slots) := by
 refine MetFree.of_bodySF (plainFor_of_name pnc_java_lang_String) hisR ?_
 intro p e s m args below meth c s₁ Bd hml0 hP hK
 obtain ⟨rfl, hZ, hh⟩ := hP
 have hx := Bd.exec
 have hby := Bd.bytes
 have hml : c.maxLocals = 2 := hml0
 have hown : s.vm.findClass "java/lang/String" = some m.cls := findClass_of_methodNamed Bd.named
 have hnm := (name_of_methodNamed Bd.named Bd.method).1
 have X0 : Stand p l e ({ frames := 3, cells := 0, slots := 0, locals := 40 } : Room) s m #[(.ref r0), (.int p1)] below meth c s₁ [] 0 0 := Stand.of_body Bd
 have e0 : s₁.heap = h0 := by rw [← hh, Bd.state]; rfl
 have N0 := Fr.nil n0
 have kp0 : Keep h0 h0 [] := Keep.refl _ _
 have G0 : ∀ t, Steps p.tables e below (s₁.setTop (mkF m 0 #[rv r0, iv p1] [])) t → Steps p.tables e below (s₁.setTop (entryFrame m #[(.ref r0), (.int p1)] 2)) t := fun t k => castTop (ef_rmChL m r0 p1) k
 obtain ⟨cq1, kq1, q1a, q1b, q1c⟩ := isOf hZ e0 E0
 obtain ⟨_, _, ⟨T1, L1, k1, n1⟩, -, X1, ⟨Lc1, hQ1, l1, y1, z1⟩, st1⟩ := X0.virtualBack hx (y := (⟨"java/lang/String", "isLatin1", "()Z"⟩ : MethodName)) (z := (⟨"java/lang/String", "isLatin1", "()Z"⟩ : MethodName)) hown (mvT hZ (hq hw 95 rfl)) (mvT hZ (hq hw 96 rfl)) (notFace_of_selects (args := #[]) (mvT hZ (hq hw 98 rfl))) (mvT hZ (hq hw 98 rfl)) (mvT hZ (hq hw 97 rfl)) (by decide) (backOf (W := 0) (rm19 l Z a0 hw [] r0 (0 : Int32) cst fv h0 n0 Z0 Fc O0  SS) hZ (hq hw 99 rfl) (hq hw 6 rfl) (by decide) (by decide)) q1a q1c (g := (mkF m 1 #[rv r0, iv p1] [(.ref r0)])) rfl (by rw [hml]; rfl) (Steps.refl _) (argsL := []) (rest := []) (lenOf pd_3 rfl) rfl (by show 2 * 0 + _ ≤ _; exact Nat.le_of_eq rfl) (hb hby d18_1) (fun _ _ => ⟨rfl, e0, (by decide : 0 + 0 ≤ _), (by decide : 0 + 0 ≤ _)⟩)
 dsimp only [Pt.U, Pt.locs, Pt.cells, Pt.slots] at X1 l1 y1 z1 st1 hQ1
 subst l1 y1 z1
 obtain ⟨rfl, N1q, eh1⟩ := hQ1
 have N1 := Fr.app N0 N1q
 have G2 : ∀ t, Steps p.tables e below (T1.setTop (mkF m 4 #[rv r0, iv p1] [(.int (1 : Int32))])) t → Steps p.tables e below (s₁.setTop (entryFrame m #[(.ref r0), (.int p1)] 2)) t := by
  intro t kt
  refine G0 _ ?_
  refine XS.aloadN X0.here hx rfl (hb hby d18_0) rfl rfl ?_
  refine st1.trans ?_
  exact kt
 obtain ⟨T3, X3, e3, st3⟩ := getF X1 hx hZ hown (host := "") (Or.inl (hq hw 64 rfl)) Via.refl eh1 Fv (g := (mkF m 8 #[rv r0, iv p1] [(.ref r0)])) rfl rfl (hb hby d18_8)
 obtain ⟨_, _, ⟨T4, L4, k4, n4⟩, -, X4, ⟨Lc4, hQ4, l4, y4, z4⟩, st4⟩ := Jvm.LawKit.callS X3 hx (y := (⟨"java/lang/StringLatin1", "charAt", "([BI)C"⟩ : MethodName)) hown (mvT hZ (hq hw 100 rfl)) (mvT hZ (hq hw 101 rfl)) (mvT hZ (hq hw 102 rfl)) (mvT hZ (hq hw 103 rfl)) (by decide) (backOf (W := 0) (rm20 l Z a0 hw [] ta p1 kk nn vs x cst fv h0 n0 Z0 V0 O0 hlo hhi g0 SS) hZ (hq hw 103 rfl) (hq hw 102 rfl) (by decide) (by decide)) (g := (mkF m 12 #[rv r0, iv p1] [(.int p1), (.ref ta)])) rfl (by rw [hml]; rfl) (argsL := [(.ref ta), (.int p1)]) (rest := []) (lenOf pd_4 rfl) rfl (by show 2 * 0 + _ ≤ _; exact Nat.le_of_eq rfl) (hb hby d18_12) (fun _ _ => ⟨rfl, e3, (by decide : 0 + 0 ≤ _), (by decide : 0 + 0 ≤ _)⟩)
 dsimp only [Pt.U, Pt.locs, Pt.cells, Pt.slots] at X4 l4 y4 z4 st4 hQ4
 subst l4 y4 z4
 obtain ⟨rfl, N4q, eh4⟩ := hQ4
 have N4 := Fr.app N1 N4q
 obtain ⟨fs, hr, hrun, hended, hW, hsame⟩ := X4.leave (v := some (.int (nar .char (fchL x)))) (fun h => by rw [Bd.returns] at h; cases h)
 refine ⟨_, _, G2 _ ?_, hrun, hended, _, _, rfl, ?_, ⟨_, rfl⟩, hW, hsame.mono (by decide) (by decide)⟩
 ·skip
  refine XS.ifNo X1.here hx rfl (hb hby d18_4) rfl ((if0 _ _).trans (feq (by decide)).1) ?_
  refine XS.aloadN X1.here hx rfl (hb hby d18_7) rfl rfl ?_
  refine st3 _ ?_
  refine XS.iloadN X3.here hx rfl (hb hby d18_11) rfl ?_
  refine st4 _ ?_
  exact retN X4 hx (t := .char) Bd.returns (by simp) (hb hby d18_15) hr
 ·show QChL Z r0 p1 ta kk nn vs x r cst fv h0 n0 _ T4.heap _
  rw [eh4]
  exact ⟨by rw [hres], N4, rfl⟩
theorem own_lat (k : Int32) (h : 0 ≤ k.toInt ∧ k.toInt ≤ 65535) (hl : ¬ ((255 : Int32) < k)) : nar .char (fchL (nar .byte (k.toInt8.toInt32))) = k := by
  have e : (255 : Int32).toInt = 255 := by decide
  rw [Int32.lt_iff_toInt_lt, e] at hl
  have b0 := c_i2b k
  have n0 : nar .byte (k.toInt8.toInt32) = k.toInt8.toInt32 := by show (k.toInt8.toInt32).toInt8.toInt32 = _; simp
  have p8 : ((2 ^ 8 : Nat) : Int) = 256 := by decide
  rw [n0, fchL]
  generalize k.toInt8.toInt32 = u at b0 ⊢
  have m0 := c_mask u 255 8 (by decide) (by decide)
  rw [p8] at m0
  generalize u &&& (255 : Int32) = s at m0 ⊢
  have c1 := c_i2c s
  generalize s.toUInt32.toUInt16.toUInt32.toInt32 = z at c1 ⊢
  have hz : z = k := Int32.toInt_inj.mp (by omega)
  rw [hz, own_narc k h, own_narc k h]

theorem own_same {Z : State} {a0 : Array Value} {y : MethodName} (w : (Cond.instanceMethod y).before a0 Z = true) (nf : NotFace Z y) (hy : y.cls ≠ "java/lang/invoke/MethodHandle" ∧ y.cls ≠ "java/lang/invoke/VarHandle") : (Cond.sameMethod y.cls y.cls y.name y.desc).before a0 Z = true := by
  obtain ⟨mk, meth, hn, hm, hs, hab⟩ := Cond.instanceMethod_spec w
  have hf := State.methodFound?_of_named hn hy
  obtain ⟨k, hk, hi⟩ := nf _ hn
  have hc := findClass_of_methodNamed hn
  simp [Cond.before, Cond.holds, Cond.value, hc, hf, hn, hk, hi]
theorem own_nf {Z : State} {a0 : Array Value} {C : String} {y y' : MethodName} (w : (Cond.selects C y y).before a0 Z = true) (wi : (Cond.instanceMethod y).before a0 Z = true) (hc : y'.cls = y.cls) : NotFace Z y' := fun r0 h0 => by
  obtain ⟨mk, meth, hn, hm, hs, hab⟩ := Cond.instanceMethod_spec wi
  obtain ⟨k, hk, hi⟩ := notFace_of_selects w _ hn
  have a := findClass_of_methodNamed hn
  have b := findClass_of_methodNamed h0
  rw [hc] at b
  have e : r0.cls = mk.cls := Option.some.inj (b.symm.trans a)
  exact ⟨k, by rw [e]; exact hk, hi⟩
theorem own_decl {s : State} {args : Array Value} {y : MethodName} {bytes : ByteArray} {maxL : Nat} {ret : Option FieldType} (w : (Cond.instanceMethod y).before args s = true) (hc : (Cond.code y bytes maxL ret).before args s = true) : (Cond.declares y).before args s = true := by
  obtain ⟨mk, meth, hn, hm, hs, hab⟩ := Cond.instanceMethod_spec w
  obtain ⟨m2, cM, q1, -, -, -, -, -, -, hsig⟩ := Cond.code_spec hn hc
  cases hm.symm.trans q1
  simp [Cond.before, Cond.holds, Cond.value, hn, hm, hs, hsig]
def own_cp (vd ws : List Value) (d m : Int32) : List Value := vd.take d.toNatClampNeg ++ ((List.range m.toNatClampNeg).map fun i => ws.getD ((0 : Int32).toNatClampNeg + i) (.int (0 : Int32))) ++ vd.drop (d.toNatClampNeg + m.toNatClampNeg)
def own_ok (d m zs zd : Int32) (l : Nat) : Prop := ¬ (d < 0) ∧ ¬ (m < 0) ∧ (0 : Int32).toNatClampNeg + m.toNatClampNeg ≤ zs.toNatClampNeg ∧ d.toNatClampNeg + m.toNatClampNeg ≤ zd.toNatClampNeg ∧ d.toNatClampNeg + m.toNatClampNeg ≤ l
theorem own_mkok {d m zs zd : Int32} {l : Nat} (h1 : ¬ (d < 0)) (h2 : ¬ (m < 0)) (h3 : (0 : Int32).toNatClampNeg + m.toNatClampNeg ≤ zs.toNatClampNeg) (h4 : d.toNatClampNeg + m.toNatClampNeg ≤ zd.toNatClampNeg) (h5 : d.toNatClampNeg + m.toNatClampNeg ≤ l) : own_ok d m zs zd l := ⟨h1, h2, h3, h4, h5⟩
theorem own_sh0 (m : Int32) : m >>> ((0 : Int32) &&& 31) = m := by
  have a0 := c_ishr m 0 0 (by decide)
  have p0 : ((2 ^ 0 : Nat) : Int) = 1 := by decide
  rw [p0] at a0
  exact Int32.toInt_inj.mp (by omega)

def own_ds (len n : Nat) : List Value := (List.range len).map fun i => .int (Int32.ofNat (48 + n / 10 ^ (len - 1 - i) % 10))
theorem own_ds_len (len n : Nat) : (own_ds len n).length = len := by simp [own_ds]
theorem own_ds_get (len n i : Nat) (d : Value) (h : i < len) : (own_ds len n).getD i d = .int (Int32.ofNat (48 + n / 10 ^ (len - 1 - i) % 10)) := by
  simp [own_ds, List.getD, h]
theorem own_ds_snoc (len q r : Nat) (h : r < 10) : own_ds (len + 1) (10 * q + r) = own_ds len q ++ [.int (Int32.ofNat (48 + r))] := by
  unfold own_ds
  rw [List.range_succ, List.map_append]
  congr 1
  · apply List.map_congr_left
    intro i hi
    have hi' : i < len := List.mem_range.mp hi
    have e : len + 1 - 1 - i = (len - 1 - i) + 1 := by omega
    rw [e, Nat.pow_succ, Nat.mul_comm (10 ^ _) 10, ← Nat.div_div_eq_div_mul, show (10 * q + r) / 10 = q by omega]
  · simp only [List.map_cons, List.map_nil]
    rw [show len + 1 - 1 - len = 0 by omega, Nat.pow_zero, Nat.div_one, show (10 * q + r) % 10 = r by omega]
open Jvm.Free.SBG in
theorem own_wN : ∀ (f n : Nat), n < 100 ^ (f + 1) → n < 10 ^ wN (f + 1) n ∧ (wN (f + 1) n = 1 ∨ 10 ^ (wN (f + 1) n - 1) ≤ n)
  | 0, n, h => by
    have h' : n < 100 := by simpa using h
    by_cases h9 : 9 < n
    · rw [wN, if_neg (show ¬ 100 ≤ n by omega), if_pos h9]; omega
    · rw [wN, if_neg (show ¬ 100 ≤ n by omega), if_neg h9]; omega
  | f + 1, n, h => by
    by_cases h100 : 100 ≤ n
    · have ih := own_wN f (n / 100) (by rw [Nat.pow_succ] at h; exact Nat.div_lt_of_lt_mul (by rw [Nat.mul_comm]; exact h))
      have e : wN (f + 2) n = 2 + wN (f + 1) (n / 100) := by rw [wN, if_pos h100]
      have p1 : 1 ≤ wN (f + 1) (n / 100) := wN_pos f _
      rw [e]
      generalize wN (f + 1) (n / 100) = w at *
      have a : (10 : Nat) ^ (2 + w) = 100 * 10 ^ w := by rw [Nat.pow_add]
      refine ⟨by rw [a]; omega, Or.inr ?_⟩
      rcases ih.2 with q | q
      · subst q; simp; omega
      · rw [show 2 + w - 1 = 2 + (w - 1) by omega, Nat.pow_add]
        omega
    · by_cases h9 : 9 < n
      · rw [wN, if_neg h100, if_pos h9]; omega
      · rw [wN, if_neg h100, if_neg h9]; omega
def own_ln (len n : Nat) : Prop := n < 10 ^ len ∧ (len = 1 ∨ 10 ^ (len - 1) ≤ n) ∧ 1 ≤ len ∧ len ≤ 20
open Jvm.Free.SBG in
theorem own_ln0 (n : Nat) (h : n < 2 ^ 63) : own_ln (digitsL n) n := by
  have a := own_wN 9 n (Nat.lt_trans h (by decide))
  have b := digitsL_pos n
  exact ⟨a.1, a.2, b.1, b.2⟩
theorem own_ln1 {len q r : Nat} (h : own_ln len q) (hr : r < 10) (hq : 1 ≤ q) (hl : len ≤ 19) : own_ln (len + 1) (10 * q + r) := by
  obtain ⟨h1, h2, h3, h4⟩ := h
  have e : 10 ^ (len + 1) = 10 * 10 ^ len := by rw [Nat.pow_succ, Nat.mul_comm]
  refine ⟨by omega, Or.inr ?_, by omega, by omega⟩
  rw [show len + 1 - 1 = len by omega]
  rcases h2 with q1 | q1
  · subst q1; simp; omega
  · have e2 : 10 ^ len = 10 * 10 ^ (len - 1) := by conv => lhs; rw [show len = (len - 1) + 1 by omega, Nat.pow_succ, Nat.mul_comm]
    omega
open Jvm.Free.SBG in
theorem own_d1819 {n : Nat} (h1 : 922337203685477580 ≤ n) (h2 : n ≤ 1844674407370955161) : digitsL n = 18 ∨ digitsL n = 19 := by
  obtain ⟨a, b, c, d⟩ := own_ln0 n (by omega)
  generalize digitsL n = w at *
  rcases Nat.lt_or_ge w 18 with q | q
  · have : 10 ^ w ≤ 10 ^ 17 := Nat.pow_le_pow_right (by decide) (by omega)
    have e : (10 : Nat) ^ 17 = 100000000000000000 := by decide
    omega
  · rcases Nat.lt_or_ge 19 w with q2 | q2
    · rcases b with b | b
      · omega
      · have : 10 ^ 19 ≤ 10 ^ (w - 1) := Nat.pow_le_pow_right (by decide) (by omega)
        have e : (10 : Nat) ^ 19 = 10000000000000000000 := by decide
        omega
    · omega
def own_dg (len n i : Nat) : Int32 := Int32.ofNat (48 + n / 10 ^ (len - 1 - i) % 10)
theorem own_dgb (len n i : Nat) : 48 ≤ (own_dg len n i).toInt ∧ (own_dg len n i).toInt ≤ 57 := by
  unfold own_dg
  have h : n / 10 ^ (len - 1 - i) % 10 < 10 := Nat.mod_lt _ (by decide)
  generalize n / 10 ^ (len - 1 - i) % 10 = k at *
  have : ∀ k, k < 10 → 48 ≤ (Int32.ofNat (48 + k)).toInt ∧ (Int32.ofNat (48 + k)).toInt ≤ 57 := by decide
  exact this k h
theorem own_dgs (len n i : Nat) : own_dg len n i - (48 : Int32) = Int32.ofNat (n / 10 ^ (len - 1 - i) % 10) := by
  unfold own_dg
  have h : n / 10 ^ (len - 1 - i) % 10 < 10 := Nat.mod_lt _ (by decide)
  generalize n / 10 ^ (len - 1 - i) % 10 = k at *
  have : ∀ k, k < 10 → Int32.ofNat (48 + k) - (48 : Int32) = Int32.ofNat k := by decide
  exact this k h
theorem own_i64 (k : Nat) (h : k < 10) : (Int32.ofNat k).toInt64 = Int64.ofNat k := by
  have : ∀ k, k < 10 → (Int32.ofNat k).toInt64 = Int64.ofNat k := by decide
  exact this k h
theorem own_stepv (len n i : Nat) (h : i < len) : (Int64.ofNat (n / 10 ^ (len - i)) * (10 : Int64)) + ((own_dg len n i - (48 : Int32)).toInt64) = Int64.ofNat (n / 10 ^ (len - (i + 1))) := by
  have hm : n / 10 ^ (len - 1 - i) % 10 < 10 := Nat.mod_lt _ (by decide)
  rw [own_dgs, own_i64 _ hm, show (10 : Int64) = Int64.ofNat 10 from rfl, ← Int64.ofNat_mul, ← Int64.ofNat_add]
  congr 1
  have e : len - i = (len - 1 - i) + 1 := by omega
  rw [e, Nat.pow_succ, ← Nat.div_div_eq_div_mul, show len - (i + 1) = len - 1 - i by omega]
  omega
theorem own_uflip (k : Nat) (h : k < 18446744073709551616) : (Int64.ofNat k + (-9223372036854775808 : Int64)).toInt = (k : Int) - 9223372036854775808 := by
  have a := c_ladd (Int64.ofNat k) (-9223372036854775808)
  have r := rng64 (Int64.ofNat k + (-9223372036854775808))
  have e : (-9223372036854775808 : Int64).toInt = -9223372036854775808 := by decide
  rw [e] at a
  have b : ((Int64.ofNat k).toInt - (k : Int)) % 18446744073709551616 = 0 := by
    rw [Int64.toInt_ofNat']
    exact bm64 _
  omega
theorem own_vle (len n i : Nat) (h : i < len) (hn : n < 18446744073709551616) : n / 10 ^ (len - i) ≤ 1844674407370955161 := by
  have e : len - i = (len - i - 1) + 1 := by omega
  rw [e, Nat.pow_succ, Nat.mul_comm, ← Nat.div_div_eq_div_mul]
  have : n / 10 / 10 ^ (len - i - 1) ≤ n / 10 := Nat.div_le_self _ _
  omega
theorem own_vld (len n i : Nat) (h : i < len) (hn : n < 18446744073709551616) (he : n / 10 ^ (len - i) = 1844674407370955161) : n / 10 ^ (len - 1 - i) % 10 ≤ 5 := by
  have e : len - i = (len - 1 - i) + 1 := by omega
  rw [e, Nat.pow_succ, ← Nat.div_div_eq_div_mul] at he
  have : n / 10 ^ (len - 1 - i) ≤ n := Nat.div_le_self _ _
  omega
theorem own_first {len n : Nat} (h : own_ln len n) (hl : 1 < len) : ¬ (own_dg len n 0 = (48 : Int32)) := by
  obtain ⟨h1, h2, h3, h4⟩ := h
  unfold own_dg
  rw [show len - 1 - 0 = len - 1 by omega]
  have a : 1 ≤ n / 10 ^ (len - 1) := by
    rcases h2 with q | q
    · omega
    · exact (Nat.one_le_div_iff (Nat.pow_pos (by decide))).mpr q
  have b : n / 10 ^ (len - 1) < 10 := by
    apply Nat.div_lt_of_lt_mul
    have e3 : 10 ^ len = 10 ^ (len - 1) * 10 := by conv => lhs; rw [show len = (len - 1) + 1 by omega, Nat.pow_succ]
    rw [← e3]; exact h1
  have e : n / 10 ^ (len - 1) % 10 = n / 10 ^ (len - 1) := Nat.mod_eq_of_lt b
  rw [e]
  generalize n / 10 ^ (len - 1) = k at *
  have : ∀ k, k < 10 → 1 ≤ k → ¬ (Int32.ofNat (48 + k) = (48 : Int32)) := by decide
  exact this k b a
def own_u (q : Int64) : Nat := (q.toInt % 18446744073709551616).toNat
theorem own_u1 (q : Int64) : Int64.ofNat (own_u q) = q := by
  apply Int64.toInt_inj.mp
  rw [Int64.toInt_ofNat']
  have r := rng64 q
  unfold own_u
  have h : ((q.toInt % 18446744073709551616).toNat : Int) = q.toInt % 18446744073709551616 := Int.toNat_of_nonneg (by omega)
  rw [h]
  have e := Int.bmod_emod (x := q.toInt % 18446744073709551616) (m := 18446744073709551616)
  have b1 := Int.le_bmod (x := q.toInt % 18446744073709551616) (m := 18446744073709551616) (by decide)
  have b2 := Int.bmod_lt (x := q.toInt % 18446744073709551616) (m := 18446744073709551616) (by decide)
  generalize Int.bmod (q.toInt % 18446744073709551616) 18446744073709551616 = w at *
  omega
theorem own_u2 (q : Int64) : own_u q < 18446744073709551616 := by unfold own_u; omega
theorem own_u3 {q : Int64} (h : ¬ (q < (0 : Int64))) : own_u q = q.toInt.toNat ∧ q.toInt.toNat < 2 ^ 63 := by
  have r := rng64 q
  rw [Int64.lt_iff_toInt_lt, show (0 : Int64).toInt = 0 by decide] at h
  unfold own_u; omega
open Jvm.Free.SBG in
theorem own_neg {q : Int64} (h : ¬ (q < (0 : Int64))) : (if q < 0 then q else -q) = negL q.toInt.toNat := by
  rw [if_neg h]
  have r := rng64 q
  rw [Int64.lt_iff_toInt_lt, show (0 : Int64).toInt = 0 by decide] at h
  apply Int64.toInt_inj.mp
  rw [negL_toInt (by omega)]
  have a := c_lneg q
  have r2 := rng64 (-q)
  omega
open Jvm.Free.SBG in
theorem own_size {q : Int64} (h : ¬ (q < (0 : Int64))) : strSizeOfL q = Int32.ofNat (digitsL q.toInt.toNat) := by
  have u := own_u3 h
  rw [strSizeOfL_eq (by omega) (own_neg h)]
  unfold GetCharsL.sgnL
  rw [if_neg h]; rfl
theorem own_ofn {k : Nat} (h : k ≤ 100) : (Int32.ofNat k).toNatClampNeg = k ∧ ¬ (Int32.ofNat k < (0 : Int32)) ∧ (Int32.ofNat k).toInt = k := by
  have : ∀ k, k < 101 → (Int32.ofNat k).toNatClampNeg = k ∧ ¬ (Int32.ofNat k < (0 : Int32)) ∧ (Int32.ofNat k).toInt = k := by decide
  exact this k (by omega)
-- the quotient and the last digit of a negative long
theorem own_quo (q d r : Int64) (hq : q < (0 : Int64)) (hd : d = (((q.toUInt64 >>> (((1 : Int32)) &&& 0x3f).toInt64.toUInt64).toInt64) / (5 : Int64))) (hr : r = (q - (d * (10 : Int64)))) :
    ¬ (d < (0 : Int64)) ∧ 922337203685477580 ≤ d.toInt.toNat ∧ d.toInt.toNat ≤ 1844674407370955161 ∧ ¬ (r < (0 : Int64)) ∧ r.toInt.toNat < 10 ∧ own_u q = 10 * d.toInt.toNat + r.toInt.toNat := by
  have a := c_lushr q 1 1 (by decide) (by decide)
  have p1 : ((2 ^ 1 : Nat) : Int) = 2 := by decide
  rw [p1] at a
  have rq := rng64 q
  rw [Int64.lt_iff_toInt_lt, show (0 : Int64).toInt = 0 by decide] at hq
  generalize ((q.toUInt64 >>> (((1 : Int32)) &&& 0x3f).toInt64.toUInt64).toInt64) = w at *
  have e5 : (5 : Int64).toInt = 5 := by decide
  have e10 : (10 : Int64).toInt = 10 := by decide
  have b := (c_ldiv w 5 5 e5 (by decide)).1 (by omega)
  rw [← hd, a] at b
  have c1 := c_lmul d 10
  have r1 := rng64 (d * 10)
  rw [e10] at c1
  have c2 := c_lsub q (d * 10)
  have r2 := rng64 (q - d * 10)
  rw [← hr] at c2 r2
  have er : r.toInt = q.toInt + 18446744073709551616 - 10 * d.toInt := by omega
  rw [Int64.lt_iff_toInt_lt, Int64.lt_iff_toInt_lt, show (0 : Int64).toInt = 0 by decide]
  unfold own_u
  omega

def own_gcl (vs : List Value) (idx n : Nat) : List Value := vs.take (idx - Jvm.Free.SBG.digitsL n) ++ own_ds (Jvm.Free.SBG.digitsL n) n ++ vs.drop idx
theorem own_gcl_get (vs : List Value) (idx n j : Nat) (d : Value) (hi : idx ≤ vs.length) (hw : Jvm.Free.SBG.digitsL n ≤ idx) :
    (own_gcl vs idx n).getD j d = if j < idx - Jvm.Free.SBG.digitsL n then vs.getD j d else if j < idx then .int (Int32.ofNat (48 + n / 10 ^ (idx - 1 - j) % 10)) else vs.getD j d := by
  unfold own_gcl
  generalize Jvm.Free.SBG.digitsL n = w at *
  have l1 : (vs.take (idx - w)).length = idx - w := by rw [List.length_take]; omega
  have l2 : (vs.take (idx - w) ++ own_ds w n).length = idx := by rw [List.length_append, l1, own_ds_len]; omega
  by_cases h1 : j < idx - w
  · rw [if_pos h1, List.getD_eq_getElem?_getD, List.getElem?_append_left (by rw [l2]; omega), List.getElem?_append_left (by rw [l1]; exact h1), List.getElem?_take_of_lt h1, ← List.getD_eq_getElem?_getD]
  · rw [if_neg h1]
    by_cases h2 : j < idx
    · rw [if_pos h2, List.getD_eq_getElem?_getD, List.getElem?_append_left (by rw [l2]; exact h2), List.getElem?_append_right (by rw [l1]; omega), l1, ← List.getD_eq_getElem?_getD, own_ds_get _ _ _ _ (by omega)]
      rw [show w - 1 - (j - (idx - w)) = idx - 1 - j by omega]
    · rw [if_neg h2, List.getD_eq_getElem?_getD, List.getElem?_append_right (by rw [l2]; omega), l2, List.getElem?_drop, ← List.getD_eq_getElem?_getD, show idx + (j - idx) = j by omega]
def own_TB (Z : State) : Prop := ∃ (st d1 d2 : Addr) (D1 D2 : Cell), Jvm.Free.SBG.Tbl Z "DigitOnes" st d1 D1 ∧ Jvm.Free.SBG.Tbl Z "DigitTens" st d2 D2 ∧ Jvm.Free.SBG.Ones D1 ∧ Jvm.Free.SBG.Tens D2
theorem own_ss {l : Launch} {R : Room} {p : Program} {e : Env} {below : List Frame} {s : State} {args : Array Value} {W : Nat} {Z : State} {a0 : Array Value} {h : Heap} {n0 : Nat} (hZ : Z.Warmed39 s.vm) (hw : ∀ d ∈ tables_1, d.before a0 Z = true) (q : Int64) (hfr : 2 ≤ R.frames) (hlo : W + 57 ≤ R.locals) :
    Back l R p e below s args ⟨"java/lang/Long", "stringSize", "(J)I"⟩ 3 W (fun A a => a = #[.long q] ∧ A.U.heap = h ∧ A.cells + 0 ≤ R.cells ∧ A.slots + 0 ≤ R.slots)
      (fun A _ v B => ∃ L, (v = some (.int (Jvm.Free.SBG.strSizeOfL q)) ∧ Fr n0 L ∧ B.U.heap = h) ∧ B.locs = A.locs ++ L ∧ B.cells = A.cells + 0 ∧ B.slots = A.slots + 0) := by
  have htab : Jvm.Free.SBG.StrSizeL.tab.before args s = true := by
    simp only [Jvm.Free.SBG.StrSizeL.tab, Cond.before_and, Bool.and_eq_true]
    exact ⟨mvT hZ (hq hw 49 rfl), mvT hZ (hq hw 50 rfl), mvT hZ (hq hw 133 rfl)⟩
  intro m meth c A g ig mk a X hg hs hdg hW hn hp
  obtain ⟨rfl, hh, hc, hsl⟩ := hp
  obtain ⟨v, B, X', ⟨⟨e1, e2, e3, e4⟩, e5⟩, steps⟩ := Jvm.Free.SBG.StrSizeL.pays (p := p) (e := e) (W := W) hfr hlo htab (mvT hZ (hq hw 36 rfl)) m meth c A g ig mk _ X hg hs hdg hW hn ⟨hc, hsl, q, rfl⟩
  exact ⟨v, B, X', ⟨[], ⟨e5 q rfl, Fr.nil n0, e1.trans hh⟩, by rw [e2, List.append_nil], e3, e4⟩, steps⟩
set_option maxHeartbeats 4000000 in
theorem own_gc {l : Launch} {R : Room} {p : Program} {e : Env} {below : List Frame} {s : State} {args : Array Value} {W : Nat} {Z : State} {a0 : Array Value} {h : Heap} {n0 : Nat} {da : Addr} {k : ClassId} {nn : Int32} {vs : List Value} (hZ : Z.Warmed39 s.vm) (hw : ∀ d ∈ tables_1, d.before a0 Z = true)
    (q : Int64) (zz : Int32) (idx : Nat) (hqn : ¬ (q < (0 : Int64))) (hzz : zz = Int32.ofNat idx) (V : Arv Z h da k .byte nn vs (.int (0 : Int32))) (hl : vs.length = nn.toNatClampNeg) (hi : idx ≤ vs.length) (hd : Jvm.Free.SBG.digitsL q.toInt.toNat ≤ idx) (O : Old Z n0 h) (g_da : n0 ≤ da) (TB : own_TB Z) (hfr : 2 ≤ R.frames) (hlo : W + 102 ≤ R.locals) :
    Back l R p e below s args ⟨"java/lang/Long", "getChars", "(JI[B)I"⟩ 3 W (fun A a => a = #[.long q, .int zz, .ref da] ∧ A.U.heap = h ∧ A.cells + 0 ≤ R.cells ∧ A.slots + 0 ≤ R.slots)
      (fun A _ v B => ∃ L, (∃ rv : Int32, v = some (.int rv) ∧ Fr n0 L ∧ Keep h B.U.heap [da] ∧ Arv Z B.U.heap da k .byte nn (own_gcl vs idx q.toInt.toNat) (.int (0 : Int32))) ∧ B.locs = A.locs ++ L ∧ B.cells = A.cells + 0 ∧ B.slots = A.slots + 0) := by
  have htab : Jvm.Free.SBG.GetCharsL.tab.before args s = true := by
    simp only [Jvm.Free.SBG.GetCharsL.tab, Cond.before_and, Bool.and_eq_true]
    exact ⟨mvT hZ (hq hw 54 rfl), mvT hZ (hq hw 56 rfl), mvT hZ (hq hw 154 rfl), mvT hZ (hq hw 55 rfl), mvT hZ (hq hw 153 rfl)⟩
  obtain ⟨st, d1, d2, D1, D2, T1, T2, h1, h2⟩ := TB
  obtain ⟨cl, Ar, qk, Sz, Mz, Hz, Gz⟩ := id V
  intro m meth c A g ig mk a X hg hs hdg hW hn hp
  obtain ⟨rfl, hh, hc, hsl⟩ := hp
  have hal : Z.vm.Alike A.U.vm := (wtrans hZ X.warmed).alike
  have c1 : Z.heap[d1]? = some D1 := T1.choose_spec.choose_spec.choose_spec.choose_spec.choose_spec.2.2.2.2.2.2.2.1
  have c2 : Z.heap[d2]? = some D2 := T2.choose_spec.choose_spec.choose_spec.choose_spec.choose_spec.2.2.2.2.2.2.2.1
  have c0 := T1.choose_spec.choose_spec.choose_spec.choose_spec.choose_spec.2.2.2.2.1
  have old : ∀ (x : Addr) (cx : Cell), Z.heap[x]? = some cx → A.U.heap[x]? = some cx := fun x cx hx => by rw [hh]; exact O.2.2 _ _ hx
  have lt : ∀ (x : Addr) (cx : Cell), Z.heap[x]? = some cx → da ≠ x := fun x cx hx => by
    have := (Array.getElem?_eq_some_iff.mp hx).1
    have e0 := O.1
    intro e1
    subst e1
    omega
  have t1 := T1.move hal (fun cx hx => old _ _ hx) (old _ _ c1)
  have t2 := T2.move hal (fun cx hx => old _ _ hx) (old _ _ c2)
  have u := own_u3 hqn
  have s0 : Jvm.Free.SBG.GetCharsL.sgnL q = 0 := by unfold Jvm.Free.SBG.GetCharsL.sgnL; rw [if_neg hqn]
  have b31 : cl.slots.size < 2 ^ 31 := by
    rw [Sz]
    have r := rng32 nn
    show nn.toInt.toNat < _
    omega
  have hG : Jvm.Free.SBG.GetCharsL.P ⟨q, q.toInt.toNat, idx, da, cl, st, d1, D1, d2, D2⟩ #[.long q, .int zz, .ref da] A.U :=
    ⟨by rw [hzz], by rw [hh]; exact Ar.1, State.isArrayOf_alike hal Ar.2.1, Ar.2.2, b31, by show idx ≤ cl.slots.size; rw [Sz, ← hl]; exact hi, by show _ + Jvm.Free.SBG.GetCharsL.sgnL q ≤ idx; rw [s0]; exact hd, by show q.toInt.toNat ≤ 2 ^ 63; omega, own_neg hqn, t1, t2, lt _ _ c0, lt _ _ c1, lt _ _ c2⟩
  obtain ⟨v, B, X', ⟨e1, e2, e3, e4, e5, e6, L, e7, e8⟩, steps⟩ := Jvm.Free.SBG.GetCharsL.pays (p := p) (e := e) ⟨q, q.toInt.toNat, idx, da, cl, st, d1, D1, d2, D2⟩ W htab (mvT hZ (hq hw 36 rfl)) hfr hlo m meth c A g ig mk _ X hg hs hdg hW hn ⟨by rw [hzz], hc, hsl, hG⟩
  have fby : ∀ i, i < cl.slots.size → fits .byte (cl.slots.getD i .null) = true := fun i hi' => by
    have := Gz i hi'
    rw [show cl.slots.getD i .null = vs.getD i (.int (0 : Int32)) from by rw [Array.getD_eq_getD_getElem?, Hz i hi']; rfl]
    exact this
  obtain ⟨o1, o2, o3, o4, o5⟩ := Jvm.Free.SBG.GetCharsL.outCell_facts ⟨q, q.toInt.toNat, idx, da, cl, st, d1, D1, d2, D2⟩ (by show q.toInt.toNat ≤ 2 ^ 63; omega) (by show _ + Jvm.Free.SBG.GetCharsL.sgnL q ≤ idx; rw [s0]; exact hd) fby
  have dl := (Jvm.Free.SBG.digLoop_at h1 h2 10 cl q.toInt.toNat idx (Nat.lt_trans u.2 (by decide)) hd (by rw [Sz, ← hl]; exact hi)).1
  have eo : Jvm.Free.SBG.GetCharsL.outCell ⟨q, q.toInt.toNat, idx, da, cl, st, d1, D1, d2, D2⟩ = (Jvm.Free.SBG.digLoop D1 D2 10 cl q.toInt.toNat idx).1 := by
    unfold Jvm.Free.SBG.GetCharsL.outCell; rw [if_neg hqn]
  rw [← eo] at dl
  generalize Jvm.Free.SBG.GetCharsL.outCell ⟨q, q.toInt.toNat, idx, da, cl, st, d1, D1, d2, D2⟩ = oc at *
  have hat : ∀ j, j < oc.slots.size → oc.slots[j]? = some ((own_gcl vs idx q.toInt.toNat).getD j (.int (0 : Int32))) := fun j hj => by
    rw [own_gcl_get vs idx _ j _ hi hd]
    have hj' : j < cl.slots.size := by rw [← o3]; exact hj
    by_cases a1 : j < idx - Jvm.Free.SBG.digitsL q.toInt.toNat
    · rw [if_pos a1, o5 j (Or.inl (by show j < idx - (_ + Jvm.Free.SBG.GetCharsL.sgnL q); rw [s0]; exact a1))]; exact Hz j hj'
    · rw [if_neg a1]
      by_cases a2 : j < idx
      · rw [if_pos a2]
        have := dl (idx - 1 - j) (by show _ < Jvm.Free.SBG.digitsL q.toInt.toNat; omega)
        rw [show idx - 1 - (idx - 1 - j) = j by omega] at this
        exact this
      · rw [if_neg a2, o5 j (Or.inr (by show idx ≤ j; omega))]; exact Hz j hj'
  have harr : Z.isArrayOf oc .byte := by
    obtain ⟨q1, kk, q2, comp, q3⟩ := Ar.2.1
    exact ⟨by rw [o2]; exact q1, kk, by rw [o1]; exact q2, comp, q3⟩
  refine ⟨v, B, X', ⟨L, ⟨_, e1, fun y hy => by rw [e8 y hy]; exact g_da, ⟨by rw [e5, hh]; exact Nat.le_refl _, fun x cx hx hne => e6 x cx (fun q => hne (by rw [q]; exact List.mem_singleton.mpr rfl)) (by rw [hh]; exact hx), fun x cx hx => ?_⟩, ⟨oc, ⟨e2, harr, by rw [o2]; exact Ar.2.2⟩, o1.trans qk, o3.trans Sz, Mz, hat, fun i hi' => ?_⟩⟩, e7, e3, e4⟩, steps⟩
  · by_cases hxd : x = da
    · subst hxd
      cases Ar.1.symm.trans hx
      exact ⟨oc, e2, o1, o2, o3⟩
    · exact ⟨cx, e6 x cx hxd (by rw [hh]; exact hx), rfl, rfl, rfl⟩
  · have := o4 i hi'
    rw [Array.getD_eq_getD_getElem?, hat i hi'] at this
    exact this

theorem own_lsw {tb : Tables} [Ours tb] {e : Env} {below : List Frame} {T target : State} {m : MethodId} {c : Code} {g : JFrame} (h : At T m c below) (hx : tb.exec = Jvm.exec) (hg : g.method = m) {dflt : Int} {pairs : Array (Int × Int)} {len : Nat} {o : Int} {pc0 pc' : Nat} (hpc : g.pc = pc0) (hd : decode c.code g.pc = .ok (.lookupswitch dflt pairs, len)) {i : Int32} {rest : List Value} (hs : g.stack = .int i :: rest)
    (hso : ∀ a b a' b' : Int, ((a, b), a', b') ∈ pairs.toList.zip pairs.toList.tail → a < a') (hoff : lookupswitch.offset pairs.toList dflt i.toInt = o) (ho : 0 ≤ (pc0 : Int) + o) (hp : ((pc0 : Int) + o).toNat = pc')
    (hr : Steps tb e below (T.setTop { g with pc := pc', stack := rest }) target) : Steps tb e below (T.setTop g) target := by
  subst hg hpc hp
  jvm_step h [h.top, hx, hd, hs, lookupswitch.wp_chain, hoff, ho]
  exact ⟨hso, hr⟩
theorem d2_0 : decode prog_8_method_5_code 0 = .ok (.lload_n 1, 1) := by decide +kernel
theorem d2_1 : decode prog_8_method_5_code 1 = .ok (.lconst 0, 1) := by decide +kernel
theorem d2_2 : decode prog_8_method_5_code 2 = .ok (.lcmp, 1) := by decide +kernel
theorem d2_3 : decode prog_8_method_5_code 3 = .ok (.ifCond .lt 9, 3) := by decide +kernel
theorem d2_6 : decode prog_8_method_5_code 6 = .ok (.lload_n 1, 1) := by decide +kernel
theorem d2_7 : decode prog_8_method_5_code 7 = .ok (.lload_n 3, 1) := by decide +kernel
theorem d2_8 : decode prog_8_method_5_code 8 = .ok (.lcmp, 1) := by decide +kernel
theorem d2_9 : decode prog_8_method_5_code 9 = .ok (.ifCond .le 19, 3) := by decide +kernel
theorem d2_28 : decode prog_8_method_5_code 28 = .ok (.return_, 1) := by decide +kernel
def Q2 (Z : State) (r0 : Addr) (q1 : Int64) (q2 : Int64) (h0 : Heap) (n0 : Nat) (v : Option Value) (h : Heap) (L : List Loc) : Prop := v = none ∧ Fr n0 L ∧ h = h0
theorem ef_rm2 (m : MethodId) (x0 : Addr) (x1 : Int64) (x2 : Int64) : entryFrame m #[(.ref x0), (.long x1), (.long x2)] 5 = mkF m 0 #[.val (.ref x0), .val (.long x1), .second, .val (.long x2), .second] [] := by first | (simp [entryFrame, mkF, argsToLocals, Value.category]; done) | rfl
theorem pnc_com_example_fides_fides_HybridTimestamp : plainName "com/example/fides/fides/HybridTimestamp" = true := by first | (simp [plainName, overriddenIn]; done) | decide +kernel
set_option maxRecDepth 65536 in
set_option maxHeartbeats 40000000 in
theorem rm2 (l : Launch) (Z : State) (a0 : Array Value) (hw : ∀ d ∈ tables_1, d.before a0 Z = true) (ws : List Jvm.Cond) (r0 : Addr) (q1 : Int64) (q2 : Int64) (h0 : Heap) (n0 : Nat) (Z0 : n0 ≤ h0.size) (hlo : ¬ (q1 < (0 : Int64))) (hhi : ¬ (q2 < q1)) :
  MetFree l (⟨"com/example/fides/fides/HybridTimestamp", "requireInRange", "(Ljava/lang/String;JJ)V"⟩ : MethodName) (head1 (Jvm.Cond.code (⟨"com/example/fides/fides/HybridTimestamp", "requireInRange", "(Ljava/lang/String;JJ)V"⟩ : MethodName) prog_8_method_5_code 5 none :: ws) ({ frames := 0, cells := 0, slots := 0, locals := 0 } : Room)) (fun a U => a = #[(.ref r0), (.long q1), (.long q2)] ∧ Z.Warmed39 U.vm ∧ U.heap = h0) (fun _ _ _ _ _ => True) (fun _ U o U' => ∃ v L, o = .returned v ∧ Q2 Z r0 q1 q2 h0 n0 v U'.heap L ∧ FrameEnd U o U' L ({ frames := 0, cells := 0, slots := 0, locals := 0 } : Room).cells ({ frames := 0, cells := 0, slots := 0, locals := 0 } : Room).slots) := by
 refine MetFree.of_bodySF (plainFor_of_name pnc_com_example_fides_fides_HybridTimestamp) hisR ?_
 intro p e s m args below meth c s₁ Bd hml0 hP hK
 obtain ⟨rfl, hZ, hh⟩ := hP
 have hx := Bd.exec
 have hby := Bd.bytes
 have hml : c.maxLocals = 5 := hml0
 have hown : s.vm.findClass "com/example/fides/fides/HybridTimestamp" = some m.cls := findClass_of_methodNamed Bd.named
 have hnm := (name_of_methodNamed Bd.named Bd.method).1
 have X0 : Stand p l e ({ frames := 0, cells := 0, slots := 0, locals := 0 } : Room) s m #[(.ref r0), (.long q1), (.long q2)] below meth c s₁ [] 0 0 := Stand.of_body Bd
 have e0 : s₁.heap = h0 := by rw [← hh, Bd.state]; rfl
 have N0 := Fr.nil n0
 have kp0 : Keep h0 h0 [] := Keep.refl _ _
 have G0 : ∀ t, Steps p.tables e below (s₁.setTop (mkF m 0 #[rv r0, .val (.long q1), .second, .val (.long q2), .second] [])) t → Steps p.tables e below (s₁.setTop (entryFrame m #[(.ref r0), (.long q1), (.long q2)] 5)) t := fun t k => castTop (ef_rm2 m r0 q1 q2) k
 have G1 : ∀ t, Steps p.tables e below (s₁.setTop (mkF m 3 #[rv r0, .val (.long q1), .second, .val (.long q2), .second] [(.int (lcmpW q1 (0 : Int64)))])) t → Steps p.tables e below (s₁.setTop (entryFrame m #[(.ref r0), (.long q1), (.long q2)] 5)) t := by
  intro t kt
  refine G0 _ ?_
  refine XS.lloadN X0.here hx rfl (hb hby d2_0) rfl ?_
  refine XS.lconst X0.here hx rfl (hb hby d2_1) ?_
  refine XS.lcmp X0.here hx rfl (hb hby d2_2) rfl ?_
  exact kt
 have hc3_2 : ¬ (q1 < (0 : Int64)) := hlo
 have G3 : ∀ t, Steps p.tables e below (s₁.setTop (mkF m 9 #[rv r0, .val (.long q1), .second, .val (.long q2), .second] [(.int (lcmpW q1 q2))])) t → Steps p.tables e below (s₁.setTop (entryFrame m #[(.ref r0), (.long q1), (.long q2)] 5)) t := by
  intro t kt
  refine G1 _ ?_
  refine XS.ifNo X0.here hx rfl (hb hby d2_3) rfl ((if0 _ _).trans (flt (fun q => hc3_2 ((lw_lt _ _).mp q))).1) ?_
  refine XS.lloadN X0.here hx rfl (hb hby d2_6) rfl ?_
  refine XS.lloadN X0.here hx rfl (hb hby d2_7) rfl ?_
  refine XS.lcmp X0.here hx rfl (hb hby d2_8) rfl ?_
  exact kt
 have hc9_4 : ¬ (q2 < q1) := hhi
 obtain ⟨fs, hr, hrun, hended, hW, hsame⟩ := X0.leave (v := none) (fun _ => rfl)
 refine ⟨_, _, G3 _ ?_, hrun, hended, _, _, rfl, ?_, ⟨_, rfl⟩, hW, hsame.mono (by decide) (by decide)⟩
 ·skip
  refine XS.ifYes X0.here hx rfl (pc0 := 9) (pc' := 28) rfl (hb hby d2_9) rfl ((if0 _ _).trans (flt (fun q => hc9_4 ((lw_gt _ _).mp q))).2.2.2) (by decide) (by decide) ?_
  exact X0.returnOut hx Bd.returns (hb hby d2_28) hr
 ·show Q2 Z r0 q1 q2 h0 n0 _ s₁.heap _
  rw [e0]
  exact ⟨rfl, N0, rfl⟩
theorem d3_0 : decode prog_8_method_1_code 0 = .ok (.aload_n 0, 1) := by decide +kernel
theorem d3_1 : decode prog_8_method_1_code 1 = .ok (.invokespecial 3, 3) := by decide +kernel
theorem d3_4 : decode prog_8_method_1_code 4 = .ok (.aload_n 0, 1) := by decide +kernel
theorem d3_5 : decode prog_8_method_1_code 5 = .ok (.lload_n 1, 1) := by decide +kernel
theorem d3_6 : decode prog_8_method_1_code 6 = .ok (.putfield 9, 3) := by decide +kernel
theorem d3_9 : decode prog_8_method_1_code 9 = .ok (.return_, 1) := by decide +kernel
def Q3 (Z : State) (r0 : Addr) (q1 : Int64) (h0 : Heap) (n0 : Nat) (v : Option Value) (h : Heap) (L : List Loc) : Prop := v = none ∧ Fr n0 L ∧ Keep h0 h [r0] ∧ Exa Z h r0 "com/example/fides/fides/HybridTimestamp" ∧ Fld Z h r0 "com/example/fides/fides/HybridTimestamp" "bits" "J" (.long q1)
theorem ef_rm3 (m : MethodId) (x0 : Addr) (x1 : Int64) : entryFrame m #[(.ref x0), (.long x1)] 3 = mkF m 0 #[.val (.ref x0), .val (.long x1), .second] [] := by first | (simp [entryFrame, mkF, argsToLocals, Value.category]; done) | rfl
set_option maxRecDepth 65536 in
set_option maxHeartbeats 40000000 in
theorem rm3 (l : Launch) (Z : State) (a0 : Array Value) (hw : ∀ d ∈ tables_1, d.before a0 Z = true) (ws : List Jvm.Cond) (r0 : Addr) (q1 : Int64) (h0 : Heap) (n0 : Nat) (Z0 : n0 ≤ h0.size) (F0 : Fld Z h0 r0 "com/example/fides/fides/HybridTimestamp" "bits" "J" (.long (0 : Int64))) (E0 : Exa Z h0 r0 "com/example/fides/fides/HybridTimestamp") (g_r0 : n0 ≤ r0) :
  MetFree l (⟨"com/example/fides/fides/HybridTimestamp", "<init>", "(J)V"⟩ : MethodName) (head1 (Jvm.Cond.code (⟨"com/example/fides/fides/HybridTimestamp", "<init>", "(J)V"⟩ : MethodName) prog_8_method_1_code 3 none :: ws) ({ frames := 1, cells := 0, slots := 0, locals := 12 } : Room)) (fun a U => a = #[(.ref r0), (.long q1)] ∧ Z.Warmed39 U.vm ∧ U.heap = h0) (fun _ _ _ _ _ => True) (fun _ U o U' => ∃ v L, o = .returned v ∧ Q3 Z r0 q1 h0 n0 v U'.heap L ∧ FrameEnd U o U' L ({ frames := 1, cells := 0, slots := 0, locals := 12 } : Room).cells ({ frames := 1, cells := 0, slots := 0, locals := 12 } : Room).slots) := by
 refine MetFree.of_bodySF (plainFor_of_name pnc_com_example_fides_fides_HybridTimestamp) hisR ?_
 intro p e s m args below meth c s₁ Bd hml0 hP hK
 obtain ⟨rfl, hZ, hh⟩ := hP
 have hx := Bd.exec
 have hby := Bd.bytes
 have hml : c.maxLocals = 3 := hml0
 have hown : s.vm.findClass "com/example/fides/fides/HybridTimestamp" = some m.cls := findClass_of_methodNamed Bd.named
 have hnm := (name_of_methodNamed Bd.named Bd.method).1
 have X0 : Stand p l e ({ frames := 1, cells := 0, slots := 0, locals := 12 } : Room) s m #[(.ref r0), (.long q1)] below meth c s₁ [] 0 0 := Stand.of_body Bd
 have e0 : s₁.heap = h0 := by rw [← hh, Bd.state]; rfl
 have N0 := Fr.nil n0
 have kp0 : Keep h0 h0 [r0] := Keep.refl _ _
 have G0 : ∀ t, Steps p.tables e below (s₁.setTop (mkF m 0 #[rv r0, .val (.long q1), .second] [])) t → Steps p.tables e below (s₁.setTop (entryFrame m #[(.ref r0), (.long q1)] 3)) t := fun t k => castTop (ef_rm3 m r0 q1) k
 obtain ⟨T1, X1, e1, st1⟩ := initO X0 hx hZ hown (hq hw 24 rfl) (hq hw 25 rfl) (hq hw 26 rfl) e0 (g := (mkF m 1 #[rv r0, .val (.long q1), .second] [(.ref r0)])) rfl (by rw [hml]; rfl) rfl (hb hby d3_1) (by decide) (W := 0) (by show 2 * 0 + _ ≤ _; exact Nat.le_of_eq rfl) (by decide)
 obtain ⟨T2, h2, X2, e2, W2, st2⟩ := putF X1 hx hZ hown (host := "") (Or.inl (hq hw 27 rfl)) Via.refl e1 F0 E0 (Or.inr ⟨(hq hw 28 rfl), rfl, hnm⟩) (hq hw 20 rfl) (ty := .long) (by decide) rfl rfl (g := (mkF m 6 #[rv r0, .val (.long q1), .second] [(.long q1), (.ref r0)])) rfl rfl (hb hby d3_6)
 have fa3 : Fld Z h2 r0 "com/example/fides/fides/HybridTimestamp" "bits" "J" (.long q1) := F0.same W2
 have fa4 := E0.wr W2
 have z5 : n0 ≤ h2.size := Nat.le_trans Z0 (Nat.le_of_eq W2.size.symm)
 have kp6 : Keep h0 h2 [r0] := kp0.wr W2 (Or.inl (List.mem_of_getElem? (i := 0) rfl))
 have N2 := Fr.snoc X2 N0 g_r0
 obtain ⟨fs, hr, hrun, hended, hW, hsame⟩ := X2.leave (v := none) (fun _ => rfl)
 refine ⟨_, _, G0 _ ?_, hrun, hended, _, _, rfl, ?_, ⟨_, rfl⟩, hW, hsame.mono (by decide) (by decide)⟩
 ·skip
  refine XS.aloadN X0.here hx rfl (hb hby d3_0) rfl rfl ?_
  refine st1 _ ?_
  refine XS.aloadN X1.here hx rfl (hb hby d3_4) rfl rfl ?_
  refine XS.lloadN X1.here hx rfl (hb hby d3_5) rfl ?_
  refine st2 _ ?_
  exact X2.returnOut hx Bd.returns (hb hby d3_9) hr
 ·show Q3 Z r0 q1 h0 n0 _ T2.heap _
  rw [e2]
  exact ⟨rfl, N2, kp6, fa4, fa3⟩
theorem d1_0 : decode prog_8_method_2_code 0 = .ok (.ldc 13, 2) := by decide +kernel
theorem own_satoms : ∀ d ∈ Bundle.stringAtoms, d ∈ tables_1 := by decide +kernel
theorem d1_2 : decode prog_8_method_2_code 2 = .ok (.lload_n 0, 1) := by decide +kernel
theorem d1_3 : decode prog_8_method_2_code 3 = .ok (.ldc2_w 15, 3) := by decide +kernel
theorem d1_6 : decode prog_8_method_2_code 6 = .ok (.invokestatic 17, 3) := by decide +kernel
theorem pd_5 : parseMethodDescriptor "(Ljava/lang/String;JJ)V" = some ⟨[(.object "java/lang/String"), .long, .long], none⟩ := by decide +kernel
theorem d1_9 : decode prog_8_method_2_code 9 = .ok (.ldc 21, 2) := by decide +kernel
theorem d1_11 : decode prog_8_method_2_code 11 = .ok (.iload_n 2, 1) := by decide +kernel
theorem d1_12 : decode prog_8_method_2_code 12 = .ok (.i2l, 1) := by decide +kernel
theorem d1_13 : decode prog_8_method_2_code 13 = .ok (.ldc2_w 23, 3) := by decide +kernel
theorem d1_16 : decode prog_8_method_2_code 16 = .ok (.invokestatic 17, 3) := by decide +kernel
theorem d1_19 : decode prog_8_method_2_code 19 = .ok (.new 1, 3) := by decide +kernel
theorem d1_22 : decode prog_8_method_2_code 22 = .ok (.dup, 1) := by decide +kernel
theorem d1_23 : decode prog_8_method_2_code 23 = .ok (.lload_n 0, 1) := by decide +kernel
theorem d1_24 : decode prog_8_method_2_code 24 = .ok (.bipush 16, 2) := by decide +kernel
theorem d1_26 : decode prog_8_method_2_code 26 = .ok (.lshl, 1) := by decide +kernel
theorem d1_27 : decode prog_8_method_2_code 27 = .ok (.iload_n 2, 1) := by decide +kernel
theorem d1_28 : decode prog_8_method_2_code 28 = .ok (.i2l, 1) := by decide +kernel
theorem d1_29 : decode prog_8_method_2_code 29 = .ok (.lor, 1) := by decide +kernel
theorem d1_30 : decode prog_8_method_2_code 30 = .ok (.invokespecial 25, 3) := by decide +kernel
theorem pd_6 : parseMethodDescriptor "(J)V" = some ⟨[.long], none⟩ := by decide +kernel
theorem d1_33 : decode prog_8_method_2_code 33 = .ok (.areturn, 1) := by decide +kernel
def Q1 (Z : State) (q0 : Int64) (p1 : Int32) (h0 : Heap) (n0 : Nat) (v : Option Value) (h : Heap) (L : List Loc) : Prop := ∃ b : Addr, v = some (.ref b) ∧ Fr n0 L ∧ Keep h0 h [] ∧ Exa Z h b "com/example/fides/fides/HybridTimestamp" ∧ Fld Z h b "com/example/fides/fides/HybridTimestamp" "bits" "J" (.long ((q0 <<< ((16 : Int32) &&& 0x3f).toInt64) ||| (p1.toInt64)))
theorem ef_rm1 (m : MethodId) (x0 : Int64) (x1 : Int32) : entryFrame m #[(.long x0), (.int x1)] 3 = mkF m 0 #[.val (.long x0), .second, .val (.int x1)] [] := by first | (simp [entryFrame, mkF, argsToLocals, Value.category]; done) | rfl
set_option maxRecDepth 65536 in
set_option maxHeartbeats 40000000 in
theorem rm1 (l : Launch) (Z : State) (a0 : Array Value) (hw : ∀ d ∈ tables_1, d.before a0 Z = true) (ws : List Jvm.Cond) (q0 : Int64) (p1 : Int32) (h0 : Heap) (n0 : Nat) (Z0 : n0 ≤ h0.size) (hlo1 : ¬ (q0 < (0 : Int64))) (hhi1 : ¬ ((281474976710655 : Int64) < q0)) (hlo2 : ¬ ((p1.toInt64) < (0 : Int64))) (hhi2 : ¬ ((65535 : Int64) < (p1.toInt64))) :
  MetFree l (⟨"com/example/fides/fides/HybridTimestamp", "of", "(JI)Lcom/example/fides/fides/HybridTimestamp;"⟩ : MethodName) (head1 (Jvm.Cond.code (⟨"com/example/fides/fides/HybridTimestamp", "of", "(JI)Lcom/example/fides/fides/HybridTimestamp;"⟩ : MethodName) prog_8_method_2_code 3 (some (.object "com/example/fides/fides/HybridTimestamp")) :: ws) ({ frames := 2, cells := 5, slots := 61, locals := 27 } : Room)) (fun a U => a = #[(.long q0), (.int p1)] ∧ Z.Warmed39 U.vm ∧ U.heap = h0) (fun _ _ _ _ _ => True) (fun _ U o U' => ∃ v L, o = .returned v ∧ Q1 Z q0 p1 h0 n0 v U'.heap L ∧ ReturnedEndW U o U' L ({ frames := 2, cells := 5, slots := 61, locals := 27 } : Room).cells ({ frames := 2, cells := 5, slots := 61, locals := 27 } : Room).slots) := by
 refine MetFree.of_bodySF (plainFor_of_name pnc_com_example_fides_fides_HybridTimestamp) hisR ?_
 intro p e s m args below meth c s₁ Bd hml0 hP hK
 obtain ⟨rfl, hZ, hh⟩ := hP
 have hx := Bd.exec
 have hby := Bd.bytes
 have hml : c.maxLocals = 3 := hml0
 have hown : s.vm.findClass "com/example/fides/fides/HybridTimestamp" = some m.cls := findClass_of_methodNamed Bd.named
 have hnm := (name_of_methodNamed Bd.named Bd.method).1
 have X0 : Stand p l e ({ frames := 2, cells := 5, slots := 61, locals := 27 } : Room) s m #[(.long q0), (.int p1)] below meth c s₁ [] 0 0 := Stand.of_body Bd
 have e0 : s₁.heap = h0 := by rw [← hh, Bd.state]; rfl
 have N0 := Fr.nil n0
 have kp0 : Keep h0 h0 [] := Keep.refl _ _
 have G0 : ∀ t, Steps p.tables e below (s₁.setTop (mkF m 0 #[.val (.long q0), .second, iv p1] [])) t → Steps p.tables e below (s₁.setTop (entryFrame m #[(.long q0), (.int p1)] 3)) t := fun t k => castTop (ef_rm1 m q0 p1) k
 have X0 : Stand p l e ({ frames := 2, cells := 5, slots := 61, locals := 27 } : Room) (s.setVm s.vm) m #[(.long q0), (.int p1)] below meth c s₁ [] 0 0 := X0
 have hZ : Z.Warmed39 (s.setVm s.vm).vm := hZ
 have hown : (s.setVm s.vm).vm.findClass "com/example/fides/fides/HybridTimestamp" = some m.cls := hown
 have hS : s.Since s.vm 0 := (State.WarmedH.refl s).since 0
 have hk : 0 ≤ h0.size := Nat.zero_le _
 obtain ⟨a1, T1, h1, k1, X1, e1, E1, hS, hk, hZ, hown, st1⟩ := ldcS (s := s) X0 hx hZ hown (hq hw 5 rfl) (fun d hd => hw d (own_satoms d hd)) e0 hS hk (g := (mkF m 0 #[.val (.long q0), .second, iv p1] [])) rfl (hb hby d1_0) (n := 24) (by decide) (by decide) (by decide) (by decide)
 have z2 : n0 ≤ h1.size := Nat.le_trans Z0 E1.1
 have kp3 : Keep h0 h1 [] := kp0.ext E1
 have G4 : ∀ t, Steps p.tables e below (T1.setTop (mkF m 6 #[.val (.long q0), .second, iv p1] [(.long (281474976710655 : Int64)), (.long q0), (.ref a1)])) t → Steps p.tables e below (s₁.setTop (entryFrame m #[(.long q0), (.int p1)] 3)) t := by
  intro t kt
  refine G0 _ ?_
  refine st1 _ ?_
  refine XS.lloadN X1.here hx rfl (hb hby d1_2) rfl ?_
  refine X1.ldc2Long hx hown (mvT hZ (hq hw 13 rfl)) (g := (mkF m 3 #[.val (.long q0), .second, iv p1] [(.long q0), (.ref a1)])) rfl (hb hby d1_3) _ ?_
  exact kt
 obtain ⟨_, _, ⟨T5, L5, k5, n5⟩, -, X5, ⟨Lc5, hQ5, l5, y5, z5⟩, st5⟩ := Jvm.LawKit.callS X1 hx (y := (⟨"com/example/fides/fides/HybridTimestamp", "requireInRange", "(Ljava/lang/String;JJ)V"⟩ : MethodName)) hown (mvT hZ (hq hw 14 rfl)) (mvT hZ (hq hw 15 rfl)) (mvT hZ (hq hw 3 rfl)) (mvT hZ (hq hw 16 rfl)) (by decide) (backOf (W := 0) (rm2 l Z a0 hw [] a1 q0 (281474976710655 : Int64)  h1 n0 z2 hlo1 hhi1) hZ (hq hw 16 rfl) (hq hw 3 rfl) (by decide) (by decide)) (g := (mkF m 6 #[.val (.long q0), .second, iv p1] [(.long (281474976710655 : Int64)), (.long q0), (.ref a1)])) rfl (by rw [hml]; rfl) (argsL := [(.ref a1), (.long q0), (.long (281474976710655 : Int64))]) (rest := []) (lenOf pd_5 rfl) rfl (by show 2 * 0 + _ ≤ _; exact Nat.le_of_eq rfl) (hb hby d1_6) (fun _ _ => ⟨rfl, e1, (by decide : 2 + 0 ≤ _), (by decide : 28 + 0 ≤ _)⟩)
 dsimp only [Pt.U, Pt.locs, Pt.cells, Pt.slots] at X5 l5 y5 z5 st5 hQ5
 subst l5 y5 z5
 obtain ⟨rfl, N5q, eh5⟩ := hQ5
 have N5 := Fr.app N0 N5q
 have G6 : ∀ t, Steps p.tables e below (T5.setTop (mkF m 9 #[.val (.long q0), .second, iv p1] [])) t → Steps p.tables e below (s₁.setTop (entryFrame m #[(.long q0), (.int p1)] 3)) t := by
  intro t kt
  refine G4 _ ?_
  refine st5 _ ?_
  exact kt
 obtain ⟨a7, T7, h7, k7, X7, e7, E7, hS, hk, hZ, hown, st7⟩ := ldcS (s := s) X5 hx hZ hown (hq hw 17 rfl) (fun d hd => hw d (own_satoms d hd)) eh5 hS hk (g := (mkF m 9 #[.val (.long q0), .second, iv p1] [])) rfl (hb hby d1_9) (n := 28) (by decide) (by decide) (by decide) (by decide)
 have z8 : n0 ≤ h7.size := Nat.le_trans z2 E7.1
 have kp9 : Keep h0 h7 [] := kp3.ext E7
 have G10 : ∀ t, Steps p.tables e below (T7.setTop (mkF m 16 #[.val (.long q0), .second, iv p1] [(.long (65535 : Int64)), (.long (p1.toInt64)), (.ref a7)])) t → Steps p.tables e below (s₁.setTop (entryFrame m #[(.long q0), (.int p1)] 3)) t := by
  intro t kt
  refine G6 _ ?_
  refine st7 _ ?_
  refine XS.iloadN X7.here hx rfl (hb hby d1_11) rfl ?_
  refine XS.i2l X7.here hx rfl (hb hby d1_12) rfl ?_
  refine X7.ldc2Long hx hown (mvT hZ (hq hw 18 rfl)) (g := (mkF m 13 #[.val (.long q0), .second, iv p1] [(.long (p1.toInt64)), (.ref a7)])) rfl (hb hby d1_13) _ ?_
  exact kt
 obtain ⟨_, _, ⟨T11, L11, k11, n11⟩, -, X11, ⟨Lc11, hQ11, l11, y11, z11⟩, st11⟩ := Jvm.LawKit.callS X7 hx (y := (⟨"com/example/fides/fides/HybridTimestamp", "requireInRange", "(Ljava/lang/String;JJ)V"⟩ : MethodName)) hown (mvT hZ (hq hw 14 rfl)) (mvT hZ (hq hw 15 rfl)) (mvT hZ (hq hw 3 rfl)) (mvT hZ (hq hw 16 rfl)) (by decide) (backOf (W := 0) (rm2 l Z a0 hw [] a7 (p1.toInt64) (65535 : Int64)  h7 n0 z8 hlo2 hhi2) hZ (hq hw 16 rfl) (hq hw 3 rfl) (by decide) (by decide)) (g := (mkF m 16 #[.val (.long q0), .second, iv p1] [(.long (65535 : Int64)), (.long (p1.toInt64)), (.ref a7)])) rfl (by rw [hml]; rfl) (argsL := [(.ref a7), (.long (p1.toInt64)), (.long (65535 : Int64))]) (rest := []) (lenOf pd_5 rfl) rfl (by show 2 * 0 + _ ≤ _; exact Nat.le_of_eq rfl) (hb hby d1_16) (fun _ _ => ⟨rfl, e7, (by decide : 4 + 0 ≤ _), (by decide : 60 + 0 ≤ _)⟩)
 dsimp only [Pt.U, Pt.locs, Pt.cells, Pt.slots] at X11 l11 y11 z11 st11 hQ11
 subst l11 y11 z11
 obtain ⟨rfl, N11q, eh11⟩ := hQ11
 have N11 := Fr.app N5 N11q
 obtain ⟨T12, h12, X12, e12, E12, A12, D12, -, st12⟩ := newO X11 hx hZ hown (hq hw 19 rfl) (hq hw 20 rfl) (hq hw 3 rfl) eh11 (g := (mkF m 19 #[.val (.long q0), .second, iv p1] [])) rfl (hb hby d1_19) (by decide) (by decide)
 obtain ⟨b12, g12⟩ : ∃ z, z = h7.size := ⟨_, rfl⟩
 rw [← g12] at A12 D12 st12
 have g_b12 : n0 ≤ b12 := Nat.le_trans z8 (Nat.le_of_eq g12.symm)
 have sz_b12 : h0.size ≤ b12 := Nat.le_trans kp9.1 (Nat.le_of_eq g12.symm)
 have z13 : n0 ≤ h12.size := Nat.le_trans z8 E12.1
 have hk := Nat.le_trans hk E12.1
 have kp14 : Keep h0 h12 [] := kp9.ext E12
 have fa15 : Fld Z h12 b12 "com/example/fides/fides/HybridTimestamp" "bits" "J" (.long (0 : Int64)) := D12 (Or.inr (hq hw 28 rfl)) (ty := .long) (by decide)
 have G16 : ∀ t, Steps p.tables e below (T12.setTop (mkF m 30 #[.val (.long q0), .second, iv p1] [(.long ((q0 <<< ((16 : Int32) &&& 0x3f).toInt64) ||| (p1.toInt64))), (.ref b12), (.ref b12)])) t → Steps p.tables e below (s₁.setTop (entryFrame m #[(.long q0), (.int p1)] 3)) t := by
  intro t kt
  refine G10 _ ?_
  refine st11 _ ?_
  refine st12 _ ?_
  refine XS.dup X12.here hx rfl (hb hby d1_22) rfl rfl ?_
  refine XS.lloadN X12.here hx rfl (hb hby d1_23) rfl ?_
  refine XS.bipush X12.here hx rfl (hb hby d1_24) ?_
  refine XS.lshl X12.here hx rfl (hb hby d1_26) rfl ?_
  refine XS.iloadN X12.here hx rfl (hb hby d1_27) rfl ?_
  refine XS.i2l X12.here hx rfl (hb hby d1_28) rfl ?_
  refine XS.lor X12.here hx rfl (hb hby d1_29) rfl ?_
  exact kt
 obtain ⟨_, _, ⟨T17, L17, k17, n17⟩, -, X17, ⟨Lc17, hQ17, l17, y17, z17⟩, st17⟩ := X12.specialBack hx (y := (⟨"com/example/fides/fides/HybridTimestamp", "<init>", "(J)V"⟩ : MethodName)) rfl hown (mvT hZ (hq hw 21 rfl)) (mvT hZ (hq hw 22 rfl)) (mvT hZ (hq hw 23 rfl)) (by decide) (backOf (W := 1) (rm3 l Z a0 hw [] b12 ((q0 <<< ((16 : Int32) &&& 0x3f).toInt64) ||| (p1.toInt64))  h12 n0 z13 fa15 A12 g_b12) hZ (hq hw 23 rfl) (hq hw 3 rfl) (by decide) (by decide)) (g := (mkF m 30 #[.val (.long q0), .second, iv p1] [(.long ((q0 <<< ((16 : Int32) &&& 0x3f).toInt64) ||| (p1.toInt64))), (.ref b12), (.ref b12)])) rfl (by rw [hml]; rfl) (Steps.refl _) (a := b12) (argsL := [(.long ((q0 <<< ((16 : Int32) &&& 0x3f).toInt64) ||| (p1.toInt64)))]) (rest := [(.ref b12)]) (lenOf pd_6 rfl) rfl (by show 2 * 0 + _ ≤ _; exact Nat.le_of_eq rfl) (hb hby d1_30) (fun _ _ => ⟨rfl, e12, (by decide : 5 + 0 ≤ _), (by decide : 61 + 0 ≤ _)⟩)
 dsimp only [Pt.U, Pt.locs, Pt.cells, Pt.slots] at X17 l17 y17 z17 st17 hQ17
 subst l17 y17 z17
 obtain ⟨rfl, N17q, K17, A17, F17_0⟩ := hQ17
 have N17 := Fr.app N11 N17q
 have fa18 := A12.keep K17
 have z19 : n0 ≤ T17.heap.size := Nat.le_trans z13 K17.1
 have hk := Nat.le_trans hk K17.1
 have kp20 : Keep h0 T17.heap [] := kp14.trans K17 (allS (Or.inr sz_b12) all0)
 obtain ⟨fs, hr, hrun, hended, hRW⟩ := X17.leaveW (s := s) hS (by rw [show T17.heap = T17.heap from rfl]; exact hk) (v := some (.ref b12)) (fun h => by rw [Bd.returns] at h; cases h) (BodyLoose.notSynchronized Bd)
 refine ⟨_, _, G16 _ ?_, hrun, hended, _, _, rfl, ?_, hRW.1, hRW.2.1, hRW.2.2.1, hRW.2.2.2.mono (by decide) (by decide)⟩
 ·skip
  refine st17.trans ?_
  exact retOut X17 hx Bd.returns rfl (Or.inr (Or.inr (Or.inr (Or.inr ⟨rfl, rfl, rfl⟩)))) (hb hby d1_33) hr
 ·show Q1 Z q0 p1 h0 n0 _ T17.heap _
  exact ⟨b12, rfl, N17, kp20, fa18, F17_0⟩
theorem d25_0 : decode prog_8_method_6_code 0 = .ok (.aload_n 0, 1) := by decide +kernel
theorem d25_1 : decode prog_8_method_6_code 1 = .ok (.getfield 9, 3) := by decide +kernel
theorem d25_4 : decode prog_8_method_6_code 4 = .ok (.bipush 16, 2) := by decide +kernel
theorem d25_6 : decode prog_8_method_6_code 6 = .ok (.lushr, 1) := by decide +kernel
theorem d25_7 : decode prog_8_method_6_code 7 = .ok (.lreturn, 1) := by decide +kernel
def fmillis (va : Int64) : Int64 := ((va.toUInt64 >>> ((16 : Int32) &&& 0x3f).toInt64.toUInt64).toInt64)
def Q25 (Z : State) (r0 : Addr) (va : Int64) (h0 : Heap) (n0 : Nat) (v : Option Value) (h : Heap) (L : List Loc) : Prop := v = some (.long (fmillis va)) ∧ Fr n0 L ∧ h = h0
theorem ef_rm25 (m : MethodId) (x0 : Addr) : entryFrame m #[(.ref x0)] 1 = mkF m 0 #[.val (.ref x0)] [] := by first | (simp [entryFrame, mkF, argsToLocals, Value.category]; done) | rfl
set_option maxRecDepth 65536 in
set_option maxHeartbeats 40000000 in
theorem rm25 (l : Launch) (Z : State) (a0 : Array Value) (hw : ∀ d ∈ tables_1, d.before a0 Z = true) (ws : List Jvm.Cond) (r0 : Addr) (va : Int64) (h0 : Heap) (n0 : Nat) (Z0 : n0 ≤ h0.size) (Fa : Fld Z h0 r0 "com/example/fides/fides/HybridTimestamp" "bits" "J" (.long va)) :
  MetFree l (⟨"com/example/fides/fides/HybridTimestamp", "millis", "()J"⟩ : MethodName) (head1 (Jvm.Cond.code (⟨"com/example/fides/fides/HybridTimestamp", "millis", "()J"⟩ : MethodName) prog_8_method_6_code 1 (some .long) :: ws) ({ frames := 0, cells := 0, slots := 0, locals := 0 } : Room)) (fun a U => a = #[(.ref r0)] ∧ Z.Warmed39 U.vm ∧ U.heap = h0) (fun _ _ _ _ _ => True) (fun _ U o U' => ∃ v L, o = .returned v ∧ Q25 Z r0 va h0 n0 v U'.heap L ∧ FrameEnd U o U' L ({ frames := 0, cells := 0, slots := 0, locals := 0 } : Room).cells ({ frames := 0, cells := 0, slots := 0, locals := 0 } : Room).slots) := by
 refine MetFree.of_bodySF (plainFor_of_name pnc_com_example_fides_fides_HybridTimestamp) hisR ?_
 intro p e s m args below meth c s₁ Bd hml0 hP hK
 obtain ⟨rfl, hZ, hh⟩ := hP
 have hx := Bd.exec
 have hby := Bd.bytes
 have hml : c.maxLocals = 1 := hml0
 have hown : s.vm.findClass "com/example/fides/fides/HybridTimestamp" = some m.cls := findClass_of_methodNamed Bd.named
 have hnm := (name_of_methodNamed Bd.named Bd.method).1
 have X0 : Stand p l e ({ frames := 0, cells := 0, slots := 0, locals := 0 } : Room) s m #[(.ref r0)] below meth c s₁ [] 0 0 := Stand.of_body Bd
 have e0 : s₁.heap = h0 := by rw [← hh, Bd.state]; rfl
 have N0 := Fr.nil n0
 have kp0 : Keep h0 h0 [] := Keep.refl _ _
 have G0 : ∀ t, Steps p.tables e below (s₁.setTop (mkF m 0 #[rv r0] [])) t → Steps p.tables e below (s₁.setTop (entryFrame m #[(.ref r0)] 1)) t := fun t k => castTop (ef_rm25 m r0) k
 obtain ⟨T1, X1, e1, st1⟩ := getF X0 hx hZ hown (host := "") (Or.inl (hq hw 27 rfl)) Via.refl e0 Fa (g := (mkF m 1 #[rv r0] [(.ref r0)])) rfl rfl (hb hby d25_1)
 obtain ⟨fs, hr, hrun, hended, hW, hsame⟩ := X1.leave (v := some (.long ((va.toUInt64 >>> ((16 : Int32) &&& 0x3f).toInt64.toUInt64).toInt64))) (fun h => by rw [Bd.returns] at h; cases h)
 refine ⟨_, _, G0 _ ?_, hrun, hended, _, _, rfl, ?_, ⟨_, rfl⟩, hW, hsame.mono (by decide) (by decide)⟩
 ·skip
  refine XS.aloadN X0.here hx rfl (hb hby d25_0) rfl rfl ?_
  refine st1 _ ?_
  refine XS.bipush X1.here hx rfl (hb hby d25_4) ?_
  refine XS.lushr X1.here hx rfl (hb hby d25_6) rfl ?_
  exact retOut X1 hx Bd.returns rfl (Or.inr (Or.inl ⟨rfl, rfl, _, rfl⟩)) (hb hby d25_7) hr
 ·show Q25 Z r0 va h0 n0 _ T1.heap _
  rw [e1]
  exact ⟨by rw [fmillis], N0, rfl⟩
theorem d26_0 : decode prog_8_method_7_code 0 = .ok (.aload_n 0, 1) := by decide +kernel
theorem d26_1 : decode prog_8_method_7_code 1 = .ok (.getfield 9, 3) := by decide +kernel
theorem d26_4 : decode prog_8_method_7_code 4 = .ok (.ldc2_w 23, 3) := by decide +kernel
theorem d26_7 : decode prog_8_method_7_code 7 = .ok (.land, 1) := by decide +kernel
theorem d26_8 : decode prog_8_method_7_code 8 = .ok (.l2i, 1) := by decide +kernel
theorem d26_9 : decode prog_8_method_7_code 9 = .ok (.ireturn, 1) := by decide +kernel
def fcounter (va : Int64) : Int32 := ((va &&& (65535 : Int64)).toInt32)
def Q26 (Z : State) (r0 : Addr) (va : Int64) (h0 : Heap) (n0 : Nat) (v : Option Value) (h : Heap) (L : List Loc) : Prop := v = some (.int (fcounter va)) ∧ Fr n0 L ∧ h = h0
theorem ef_rm26 (m : MethodId) (x0 : Addr) : entryFrame m #[(.ref x0)] 1 = mkF m 0 #[.val (.ref x0)] [] := by first | (simp [entryFrame, mkF, argsToLocals, Value.category]; done) | rfl
set_option maxRecDepth 65536 in
set_option maxHeartbeats 40000000 in
theorem rm26 (l : Launch) (Z : State) (a0 : Array Value) (hw : ∀ d ∈ tables_1, d.before a0 Z = true) (ws : List Jvm.Cond) (r0 : Addr) (va : Int64) (h0 : Heap) (n0 : Nat) (Z0 : n0 ≤ h0.size) (Fa : Fld Z h0 r0 "com/example/fides/fides/HybridTimestamp" "bits" "J" (.long va)) :
  MetFree l (⟨"com/example/fides/fides/HybridTimestamp", "counter", "()I"⟩ : MethodName) (head1 (Jvm.Cond.code (⟨"com/example/fides/fides/HybridTimestamp", "counter", "()I"⟩ : MethodName) prog_8_method_7_code 1 (some .int) :: ws) ({ frames := 0, cells := 0, slots := 0, locals := 0 } : Room)) (fun a U => a = #[(.ref r0)] ∧ Z.Warmed39 U.vm ∧ U.heap = h0) (fun _ _ _ _ _ => True) (fun _ U o U' => ∃ v L, o = .returned v ∧ Q26 Z r0 va h0 n0 v U'.heap L ∧ FrameEnd U o U' L ({ frames := 0, cells := 0, slots := 0, locals := 0 } : Room).cells ({ frames := 0, cells := 0, slots := 0, locals := 0 } : Room).slots) := by
 refine MetFree.of_bodySF (plainFor_of_name pnc_com_example_fides_fides_HybridTimestamp) hisR ?_
 intro p e s m args below meth c s₁ Bd hml0 hP hK
 obtain ⟨rfl, hZ, hh⟩ := hP
 have hx := Bd.exec
 have hby := Bd.bytes
 have hml : c.maxLocals = 1 := hml0
 have hown : s.vm.findClass "com/example/fides/fides/HybridTimestamp" = some m.cls := findClass_of_methodNamed Bd.named
 have hnm := (name_of_methodNamed Bd.named Bd.method).1
 have X0 : Stand p l e ({ frames := 0, cells := 0, slots := 0, locals := 0 } : Room) s m #[(.ref r0)] below meth c s₁ [] 0 0 := Stand.of_body Bd
 have e0 : s₁.heap = h0 := by rw [← hh, Bd.state]; rfl
 have N0 := Fr.nil n0
 have kp0 : Keep h0 h0 [] := Keep.refl _ _
 have G0 : ∀ t, Steps p.tables e below (s₁.setTop (mkF m 0 #[rv r0] [])) t → Steps p.tables e below (s₁.setTop (entryFrame m #[(.ref r0)] 1)) t := fun t k => castTop (ef_rm26 m r0) k
 obtain ⟨T1, X1, e1, st1⟩ := getF X0 hx hZ hown (host := "") (Or.inl (hq hw 27 rfl)) Via.refl e0 Fa (g := (mkF m 1 #[rv r0] [(.ref r0)])) rfl rfl (hb hby d26_1)
 obtain ⟨fs, hr, hrun, hended, hW, hsame⟩ := X1.leave (v := some (.int ((va &&& (65535 : Int64)).toInt32))) (fun h => by rw [Bd.returns] at h; cases h)
 refine ⟨_, _, G0 _ ?_, hrun, hended, _, _, rfl, ?_, ⟨_, rfl⟩, hW, hsame.mono (by decide) (by decide)⟩
 ·skip
  refine XS.aloadN X0.here hx rfl (hb hby d26_0) rfl rfl ?_
  refine st1 _ ?_
  refine X1.ldc2Long hx hown (mvT hZ (hq hw 18 rfl)) (g := (mkF m 4 #[rv r0] [(.long va)])) rfl (hb hby d26_4) _ ?_
  refine XS.land X1.here hx rfl (hb hby d26_7) rfl ?_
  refine XS.l2i X1.here hx rfl (hb hby d26_8) rfl ?_
  exact retI X1 hx Bd.returns (hb hby d26_9) hr
 ·show Q26 Z r0 va h0 n0 _ T1.heap _
  rw [e1]
  exact ⟨by rw [fcounter], N0, rfl⟩
theorem d24_0 : decode jdk_35_method_42_code 0 = .ok (.lload_n 0, 1) := by decide +kernel
theorem d24_1 : decode jdk_35_method_42_code 1 = .ok (.lload_n 2, 1) := by decide +kernel
theorem d24_2 : decode jdk_35_method_42_code 2 = .ok (.lcmp, 1) := by decide +kernel
theorem d24_3 : decode jdk_35_method_42_code 3 = .ok (.ifCond .ge 7, 3) := by decide +kernel
theorem d24_6 : decode jdk_35_method_42_code 6 = .ok (.iconst (-1), 1) := by decide +kernel
theorem d24_7 : decode jdk_35_method_42_code 7 = .ok (.goto 14, 3) := by decide +kernel
theorem d24_21 : decode jdk_35_method_42_code 21 = .ok (.ireturn, 1) := by decide +kernel
theorem d24_10 : decode jdk_35_method_42_code 10 = .ok (.lload_n 0, 1) := by decide +kernel
theorem d24_11 : decode jdk_35_method_42_code 11 = .ok (.lload_n 2, 1) := by decide +kernel
theorem d24_12 : decode jdk_35_method_42_code 12 = .ok (.lcmp, 1) := by decide +kernel
theorem d24_13 : decode jdk_35_method_42_code 13 = .ok (.ifCond .ne 7, 3) := by decide +kernel
theorem d24_16 : decode jdk_35_method_42_code 16 = .ok (.iconst 0, 1) := by decide +kernel
theorem d24_17 : decode jdk_35_method_42_code 17 = .ok (.goto 4, 3) := by decide +kernel
theorem d24_20 : decode jdk_35_method_42_code 20 = .ok (.iconst 1, 1) := by decide +kernel
def fcmp (q0 : Int64) (q1 : Int64) : Int32 := if q0 < q1 then ((-1 : Int32)) else (if q0 = q1 then ((0 : Int32)) else ((1 : Int32)))
def Q24 (Z : State) (q0 : Int64) (q1 : Int64) (h0 : Heap) (n0 : Nat) (v : Option Value) (h : Heap) (L : List Loc) : Prop := v = some (.int (fcmp q0 q1)) ∧ Fr n0 L ∧ h = h0
theorem ef_rm24 (m : MethodId) (x0 : Int64) (x1 : Int64) : entryFrame m #[(.long x0), (.long x1)] 4 = mkF m 0 #[.val (.long x0), .second, .val (.long x1), .second] [] := by first | (simp [entryFrame, mkF, argsToLocals, Value.category]; done) | rfl
theorem pnc_java_lang_Long : plainName "java/lang/Long" = true := by first | (simp [plainName, overriddenIn]; done) | decide +kernel
set_option maxRecDepth 65536 in
set_option maxHeartbeats 40000000 in
theorem rm24 (l : Launch) (Z : State) (a0 : Array Value) (hw : ∀ d ∈ tables_1, d.before a0 Z = true) (ws : List Jvm.Cond) (q0 : Int64) (q1 : Int64) (h0 : Heap) (n0 : Nat) (Z0 : n0 ≤ h0.size) :
  MetFree l (⟨"java/lang/Long", "compare", "(JJ)I"⟩ : MethodName) (head1 (Jvm.Cond.code (⟨"java/lang/Long", "compare", "(JJ)I"⟩ : MethodName) jdk_35_method_42_code 4 (some .int) :: ws) ({ frames := 0, cells := 0, slots := 0, locals := 0 } : Room)) (fun a U => a = #[(.long q0), (.long q1)] ∧ Z.Warmed39 U.vm ∧ U.heap = h0) (fun _ _ _ _ _ => True) (fun _ U o U' => ∃ v L, o = .returned v ∧ Q24 Z q0 q1 h0 n0 v U'.heap L ∧ FrameEnd U o U' L ({ frames := 0, cells := 0, slots := 0, locals := 0 } : Room).cells ({ frames := 0, cells := 0, slots := 0, locals := 0 } : Room).slots) := by
 refine MetFree.of_bodySF (plainFor_of_name pnc_java_lang_Long) hisR ?_
 intro p e s m args below meth c s₁ Bd hml0 hP hK
 obtain ⟨rfl, hZ, hh⟩ := hP
 have hx := Bd.exec
 have hby := Bd.bytes
 have hml : c.maxLocals = 4 := hml0
 have hown : s.vm.findClass "java/lang/Long" = some m.cls := findClass_of_methodNamed Bd.named
 have hnm := (name_of_methodNamed Bd.named Bd.method).1
 have X0 : Stand p l e ({ frames := 0, cells := 0, slots := 0, locals := 0 } : Room) s m #[(.long q0), (.long q1)] below meth c s₁ [] 0 0 := Stand.of_body Bd
 have e0 : s₁.heap = h0 := by rw [← hh, Bd.state]; rfl
 have N0 := Fr.nil n0
 have kp0 : Keep h0 h0 [] := Keep.refl _ _
 have G0 : ∀ t, Steps p.tables e below (s₁.setTop (mkF m 0 #[.val (.long q0), .second, .val (.long q1), .second] [])) t → Steps p.tables e below (s₁.setTop (entryFrame m #[(.long q0), (.long q1)] 4)) t := fun t k => castTop (ef_rm24 m q0 q1) k
 have G1 : ∀ t, Steps p.tables e below (s₁.setTop (mkF m 3 #[.val (.long q0), .second, .val (.long q1), .second] [(.int (lcmpW q0 q1))])) t → Steps p.tables e below (s₁.setTop (entryFrame m #[(.long q0), (.long q1)] 4)) t := by
  intro t kt
  refine G0 _ ?_
  refine XS.lloadN X0.here hx rfl (hb hby d24_0) rfl ?_
  refine XS.lloadN X0.here hx rfl (hb hby d24_1) rfl ?_
  refine XS.lcmp X0.here hx rfl (hb hby d24_2) rfl ?_
  exact kt
 by_cases hc3_2 : q0 < q1
 ·skip
  obtain ⟨fs, hr, hrun, hended, hW, hsame⟩ := X0.leave (v := some (.int (-1 : Int32))) (fun h => by rw [Bd.returns] at h; cases h)
  refine ⟨_, _, G1 _ ?_, hrun, hended, _, _, rfl, ?_, ⟨_, rfl⟩, hW, hsame.mono (by decide) (by decide)⟩
  ·skip
   refine XS.ifNo X0.here hx rfl (hb hby d24_3) rfl ((if0 _ _).trans (tlt ((lw_lt _ _).mpr hc3_2)).2.1) ?_
   refine XS.iconst X0.here hx rfl (hb hby d24_6) ?_
   refine XS.goto X0.here hx rfl (pc0 := 7) (pc' := 21) rfl (hb hby d24_7) (by decide) (by decide) ?_
   exact retI X0 hx Bd.returns (hb hby d24_21) hr
  ·show Q24 Z q0 q1 h0 n0 _ s₁.heap _
   rw [e0]
   exact ⟨by rw [fcmp, if_pos hc3_2], N0, rfl⟩
 ·skip
  have G3 : ∀ t, Steps p.tables e below (s₁.setTop (mkF m 13 #[.val (.long q0), .second, .val (.long q1), .second] [(.int (lcmpW q0 q1))])) t → Steps p.tables e below (s₁.setTop (entryFrame m #[(.long q0), (.long q1)] 4)) t := by
   intro t kt
   refine G1 _ ?_
   refine XS.ifYes X0.here hx rfl (pc0 := 3) (pc' := 10) rfl (hb hby d24_3) rfl ((if0 _ _).trans (flt (fun q => hc3_2 ((lw_lt _ _).mp q))).2.1) (by decide) (by decide) ?_
   refine XS.lloadN X0.here hx rfl (hb hby d24_10) rfl ?_
   refine XS.lloadN X0.here hx rfl (hb hby d24_11) rfl ?_
   refine XS.lcmp X0.here hx rfl (hb hby d24_12) rfl ?_
   exact kt
  by_cases hc13_4 : q0 = q1
  ·skip
   obtain ⟨fs, hr, hrun, hended, hW, hsame⟩ := X0.leave (v := some (.int (0 : Int32))) (fun h => by rw [Bd.returns] at h; cases h)
   refine ⟨_, _, G3 _ ?_, hrun, hended, _, _, rfl, ?_, ⟨_, rfl⟩, hW, hsame.mono (by decide) (by decide)⟩
   ·skip
    refine XS.ifNo X0.here hx rfl (hb hby d24_13) rfl ((if0 _ _).trans (teq ((lw_eq _ _).mpr hc13_4)).2) ?_
    refine XS.iconst X0.here hx rfl (hb hby d24_16) ?_
    refine XS.goto X0.here hx rfl (pc0 := 17) (pc' := 21) rfl (hb hby d24_17) (by decide) (by decide) ?_
    exact retI X0 hx Bd.returns (hb hby d24_21) hr
   ·show Q24 Z q0 q1 h0 n0 _ s₁.heap _
    rw [e0]
    exact ⟨by rw [fcmp, if_neg hc3_2, if_pos hc13_4], N0, rfl⟩
  ·skip
   obtain ⟨fs, hr, hrun, hended, hW, hsame⟩ := X0.leave (v := some (.int (1 : Int32))) (fun h => by rw [Bd.returns] at h; cases h)
   refine ⟨_, _, G3 _ ?_, hrun, hended, _, _, rfl, ?_, ⟨_, rfl⟩, hW, hsame.mono (by decide) (by decide)⟩
   ·skip
    refine XS.ifYes X0.here hx rfl (pc0 := 13) (pc' := 20) rfl (hb hby d24_13) rfl ((if0 _ _).trans (feq (fun q => hc13_4 ((lw_eq _ _).mp q))).2) (by decide) (by decide) ?_
    refine XS.iconst X0.here hx rfl (hb hby d24_20) ?_
    exact retI X0 hx Bd.returns (hb hby d24_21) hr
   ·show Q24 Z q0 q1 h0 n0 _ s₁.heap _
    rw [e0]
    exact ⟨by rw [fcmp, if_neg hc3_2, if_neg hc13_4], N0, rfl⟩
theorem d23_0 : decode jdk_35_method_43_code 0 = .ok (.lload_n 0, 1) := by decide +kernel
theorem d23_1 : decode jdk_35_method_43_code 1 = .ok (.ldc2_w 168, 3) := by decide +kernel
theorem d23_4 : decode jdk_35_method_43_code 4 = .ok (.ladd, 1) := by decide +kernel
theorem d23_5 : decode jdk_35_method_43_code 5 = .ok (.lload_n 2, 1) := by decide +kernel
theorem d23_6 : decode jdk_35_method_43_code 6 = .ok (.ldc2_w 168, 3) := by decide +kernel
theorem d23_9 : decode jdk_35_method_43_code 9 = .ok (.ladd, 1) := by decide +kernel
theorem d23_10 : decode jdk_35_method_43_code 10 = .ok (.invokestatic 302, 3) := by decide +kernel
theorem pd_7 : parseMethodDescriptor "(JJ)I" = some ⟨[.long, .long], some .int⟩ := by decide +kernel
theorem d23_13 : decode jdk_35_method_43_code 13 = .ok (.ireturn, 1) := by decide +kernel
def fcu (q0 : Int64) (q1 : Int64) : Int32 := (fcmp (q0 + (-9223372036854775808 : Int64)) (q1 + (-9223372036854775808 : Int64)))
def Q23 (Z : State) (q0 : Int64) (q1 : Int64) (h0 : Heap) (n0 : Nat) (v : Option Value) (h : Heap) (L : List Loc) : Prop := v = some (.int (fcu q0 q1)) ∧ Fr n0 L ∧ h = h0
theorem ef_rm23 (m : MethodId) (x0 : Int64) (x1 : Int64) : entryFrame m #[(.long x0), (.long x1)] 4 = mkF m 0 #[.val (.long x0), .second, .val (.long x1), .second] [] := by first | (simp [entryFrame, mkF, argsToLocals, Value.category]; done) | rfl
set_option maxRecDepth 65536 in
set_option maxHeartbeats 40000000 in
theorem rm23 (l : Launch) (Z : State) (a0 : Array Value) (hw : ∀ d ∈ tables_1, d.before a0 Z = true) (ws : List Jvm.Cond) (q0 : Int64) (q1 : Int64) (h0 : Heap) (n0 : Nat) (Z0 : n0 ≤ h0.size) :
  MetFree l (⟨"java/lang/Long", "compareUnsigned", "(JJ)I"⟩ : MethodName) (head1 (Jvm.Cond.code (⟨"java/lang/Long", "compareUnsigned", "(JJ)I"⟩ : MethodName) jdk_35_method_43_code 4 (some .int) :: ws) ({ frames := 1, cells := 0, slots := 0, locals := 15 } : Room)) (fun a U => a = #[(.long q0), (.long q1)] ∧ Z.Warmed39 U.vm ∧ U.heap = h0) (fun _ _ _ _ _ => True) (fun _ U o U' => ∃ v L, o = .returned v ∧ Q23 Z q0 q1 h0 n0 v U'.heap L ∧ FrameEnd U o U' L ({ frames := 1, cells := 0, slots := 0, locals := 15 } : Room).cells ({ frames := 1, cells := 0, slots := 0, locals := 15 } : Room).slots) := by
 refine MetFree.of_bodySF (plainFor_of_name pnc_java_lang_Long) hisR ?_
 intro p e s m args below meth c s₁ Bd hml0 hP hK
 obtain ⟨rfl, hZ, hh⟩ := hP
 have hx := Bd.exec
 have hby := Bd.bytes
 have hml : c.maxLocals = 4 := hml0
 have hown : s.vm.findClass "java/lang/Long" = some m.cls := findClass_of_methodNamed Bd.named
 have hnm := (name_of_methodNamed Bd.named Bd.method).1
 have X0 : Stand p l e ({ frames := 1, cells := 0, slots := 0, locals := 15 } : Room) s m #[(.long q0), (.long q1)] below meth c s₁ [] 0 0 := Stand.of_body Bd
 have e0 : s₁.heap = h0 := by rw [← hh, Bd.state]; rfl
 have N0 := Fr.nil n0
 have kp0 : Keep h0 h0 [] := Keep.refl _ _
 have G0 : ∀ t, Steps p.tables e below (s₁.setTop (mkF m 0 #[.val (.long q0), .second, .val (.long q1), .second] [])) t → Steps p.tables e below (s₁.setTop (entryFrame m #[(.long q0), (.long q1)] 4)) t := fun t k => castTop (ef_rm23 m q0 q1) k
 obtain ⟨_, _, ⟨T1, L1, k1, n1⟩, -, X1, ⟨Lc1, hQ1, l1, y1, z1⟩, st1⟩ := Jvm.LawKit.callS X0 hx (y := (⟨"java/lang/Long", "compare", "(JJ)I"⟩ : MethodName)) hown (mvT hZ (hq hw 118 rfl)) (mvT hZ (hq hw 119 rfl)) (mvT hZ (hq hw 36 rfl)) (mvT hZ (hq hw 120 rfl)) (by decide) (backOf (W := 0) (rm24 l Z a0 hw [] (q0 + (-9223372036854775808 : Int64)) (q1 + (-9223372036854775808 : Int64))  h0 n0 Z0 ) hZ (hq hw 120 rfl) (hq hw 36 rfl) (by decide) (by decide)) (g := (mkF m 10 #[.val (.long q0), .second, .val (.long q1), .second] [(.long (q1 + (-9223372036854775808 : Int64))), (.long (q0 + (-9223372036854775808 : Int64)))])) rfl (by rw [hml]; rfl) (argsL := [(.long (q0 + (-9223372036854775808 : Int64))), (.long (q1 + (-9223372036854775808 : Int64)))]) (rest := []) (lenOf pd_7 rfl) rfl (by show 2 * 0 + _ ≤ _; exact Nat.le_of_eq rfl) (hb hby d23_10) (fun _ _ => ⟨rfl, e0, (by decide : 0 + 0 ≤ _), (by decide : 0 + 0 ≤ _)⟩)
 dsimp only [Pt.U, Pt.locs, Pt.cells, Pt.slots] at X1 l1 y1 z1 st1 hQ1
 subst l1 y1 z1
 obtain ⟨rfl, N1q, eh1⟩ := hQ1
 have N1 := Fr.app N0 N1q
 obtain ⟨fs, hr, hrun, hended, hW, hsame⟩ := X1.leave (v := some (.int (fcmp (q0 + (-9223372036854775808 : Int64)) (q1 + (-9223372036854775808 : Int64))))) (fun h => by rw [Bd.returns] at h; cases h)
 refine ⟨_, _, G0 _ ?_, hrun, hended, _, _, rfl, ?_, ⟨_, rfl⟩, hW, hsame.mono (by decide) (by decide)⟩
 ·skip
  refine XS.lloadN X0.here hx rfl (hb hby d23_0) rfl ?_
  refine X0.ldc2Long hx hown (mvT hZ (hq hw 117 rfl)) (g := (mkF m 1 #[.val (.long q0), .second, .val (.long q1), .second] [(.long q0)])) rfl (hb hby d23_1) _ ?_
  refine XS.ladd X0.here hx rfl (hb hby d23_4) rfl ?_
  refine XS.lloadN X0.here hx rfl (hb hby d23_5) rfl ?_
  refine X0.ldc2Long hx hown (mvT hZ (hq hw 117 rfl)) (g := (mkF m 6 #[.val (.long q0), .second, .val (.long q1), .second] [(.long q1), (.long (q0 + (-9223372036854775808 : Int64)))])) rfl (hb hby d23_6) _ ?_
  refine XS.ladd X0.here hx rfl (hb hby d23_9) rfl ?_
  refine st1 _ ?_
  exact retI X1 hx Bd.returns (hb hby d23_13) hr
 ·show Q23 Z q0 q1 h0 n0 _ T1.heap _
  rw [eh1]
  exact ⟨by rw [fcu], N1, rfl⟩
theorem d14_0 : decode jdk_31_method_11_code 0 = .ok (.aload_n 0, 1) := by decide +kernel
theorem d14_1 : decode jdk_31_method_11_code 1 = .ok (.ifnonnull 12, 3) := by decide +kernel
theorem d14_13 : decode jdk_31_method_11_code 13 = .ok (.aload_n 0, 1) := by decide +kernel
theorem d14_14 : decode jdk_31_method_11_code 14 = .ok (.areturn, 1) := by decide +kernel
def Q14 (Z : State) (r0 : Addr) (r1 : Addr) (h0 : Heap) (n0 : Nat) (v : Option Value) (h : Heap) (L : List Loc) : Prop := v = some (.ref r0) ∧ Fr n0 L ∧ h = h0
theorem ef_rm14 (m : MethodId) (x0 : Addr) (x1 : Addr) : entryFrame m #[(.ref x0), (.ref x1)] 2 = mkF m 0 #[.val (.ref x0), .val (.ref x1)] [] := by first | (simp [entryFrame, mkF, argsToLocals, Value.category]; done) | rfl
theorem pnc_java_util_Objects : plainName "java/util/Objects" = true := by first | (simp [plainName, overriddenIn]; done) | decide +kernel
set_option maxRecDepth 65536 in
set_option maxHeartbeats 40000000 in
theorem rm14 (l : Launch) (Z : State) (a0 : Array Value) (hw : ∀ d ∈ tables_1, d.before a0 Z = true) (ws : List Jvm.Cond) (r0 : Addr) (r1 : Addr) (h0 : Heap) (n0 : Nat) (Z0 : n0 ≤ h0.size) :
  MetFree l (⟨"java/util/Objects", "requireNonNull", "(Ljava/lang/Object;Ljava/lang/String;)Ljava/lang/Object;"⟩ : MethodName) (head1 (Jvm.Cond.code (⟨"java/util/Objects", "requireNonNull", "(Ljava/lang/Object;Ljava/lang/String;)Ljava/lang/Object;"⟩ : MethodName) jdk_31_method_11_code 2 (some (.object "java/lang/Object")) :: ws) ({ frames := 0, cells := 0, slots := 0, locals := 0 } : Room)) (fun a U => a = #[(.ref r0), (.ref r1)] ∧ Z.Warmed39 U.vm ∧ U.heap = h0) (fun _ _ _ _ _ => True) (fun _ U o U' => ∃ v L, o = .returned v ∧ Q14 Z r0 r1 h0 n0 v U'.heap L ∧ FrameEnd U o U' L ({ frames := 0, cells := 0, slots := 0, locals := 0 } : Room).cells ({ frames := 0, cells := 0, slots := 0, locals := 0 } : Room).slots) := by
 refine MetFree.of_bodySF (plainFor_of_name pnc_java_util_Objects) hisR ?_
 intro p e s m args below meth c s₁ Bd hml0 hP hK
 obtain ⟨rfl, hZ, hh⟩ := hP
 have hx := Bd.exec
 have hby := Bd.bytes
 have hml : c.maxLocals = 2 := hml0
 have hown : s.vm.findClass "java/util/Objects" = some m.cls := findClass_of_methodNamed Bd.named
 have hnm := (name_of_methodNamed Bd.named Bd.method).1
 have X0 : Stand p l e ({ frames := 0, cells := 0, slots := 0, locals := 0 } : Room) s m #[(.ref r0), (.ref r1)] below meth c s₁ [] 0 0 := Stand.of_body Bd
 have e0 : s₁.heap = h0 := by rw [← hh, Bd.state]; rfl
 have N0 := Fr.nil n0
 have kp0 : Keep h0 h0 [] := Keep.refl _ _
 have G0 : ∀ t, Steps p.tables e below (s₁.setTop (mkF m 0 #[rv r0, rv r1] [])) t → Steps p.tables e below (s₁.setTop (entryFrame m #[(.ref r0), (.ref r1)] 2)) t := fun t k => castTop (ef_rm14 m r0 r1) k
 obtain ⟨fs, hr, hrun, hended, hW, hsame⟩ := X0.leave (v := some (.ref r0)) (fun h => by rw [Bd.returns] at h; cases h)
 refine ⟨_, _, G0 _ ?_, hrun, hended, _, _, rfl, ?_, ⟨_, rfl⟩, hW, hsame.mono (by decide) (by decide)⟩
 ·skip
  refine XS.aloadN X0.here hx rfl (hb hby d14_0) rfl rfl ?_
  refine XS.ifnonnullYes X0.here hx rfl (pc0 := 1) (pc' := 13) rfl (hb hby d14_1) rfl (by decide) (by decide) ?_
  refine XS.aloadN X0.here hx rfl (hb hby d14_13) rfl rfl ?_
  exact retOut X0 hx Bd.returns rfl (Or.inr (Or.inr (Or.inr (Or.inr ⟨rfl, rfl, rfl⟩)))) (hb hby d14_14) hr
 ·show Q14 Z r0 r1 h0 n0 _ s₁.heap _
  rw [e0]
  exact ⟨rfl, N0, rfl⟩
theorem d12_0 : decode jdk_42_method_151_code 0 = .ok (.aload_n 0, 1) := by decide +kernel
theorem d12_1 : decode jdk_42_method_151_code 1 = .ok (.invokespecial 1, 3) := by decide +kernel
theorem d12_4 : decode jdk_42_method_151_code 4 = .ok (.aload_n 0, 1) := by decide +kernel
theorem d12_5 : decode jdk_42_method_151_code 5 = .ok (.aload_n 1, 1) := by decide +kernel
theorem d12_6 : decode jdk_42_method_151_code 6 = .ok (.putfield 9, 3) := by decide +kernel
theorem d12_9 : decode jdk_42_method_151_code 9 = .ok (.aload_n 0, 1) := by decide +kernel
theorem d12_10 : decode jdk_42_method_151_code 10 = .ok (.iload_n 2, 1) := by decide +kernel
theorem d12_11 : decode jdk_42_method_151_code 11 = .ok (.putfield 15, 3) := by decide +kernel
theorem d12_14 : decode jdk_42_method_151_code 14 = .ok (.return_, 1) := by decide +kernel
def Q12 (Z : State) (r0 : Addr) (r1 : Addr) (h0 : Heap) (n0 : Nat) (v : Option Value) (h : Heap) (L : List Loc) : Prop := v = none ∧ Fr n0 L ∧ Keep h0 h [r0] ∧ Exa Z h r0 "java/lang/String" ∧ Fld Z h r0 "java/lang/String" "value" "[B" (.ref r1) ∧ Fld Z h r0 "java/lang/String" "coder" "B" (.int (0 : Int32))
theorem ef_rm12 (m : MethodId) (x0 : Addr) (x1 : Addr) (x2 : Int32) : entryFrame m #[(.ref x0), (.ref x1), (.int x2)] 3 = mkF m 0 #[.val (.ref x0), .val (.ref x1), .val (.int x2)] [] := by first | (simp [entryFrame, mkF, argsToLocals, Value.category]; done) | rfl
set_option maxRecDepth 65536 in
set_option maxHeartbeats 40000000 in
theorem rm12 (l : Launch) (Z : State) (a0 : Array Value) (hw : ∀ d ∈ tables_1, d.before a0 Z = true) (ws : List Jvm.Cond) (r0 : Addr) (r1 : Addr) (h0 : Heap) (n0 : Nat) (Z0 : n0 ≤ h0.size) (E0 : Exa Z h0 r0 "java/lang/String") (Fv : Fld Z h0 r0 "java/lang/String" "value" "[B" .null) (Fc : Fld Z h0 r0 "java/lang/String" "coder" "B" (.int (0 : Int32))) (g_r0 : n0 ≤ r0) :
  MetFree l (⟨"java/lang/String", "<init>", "([BB)V"⟩ : MethodName) (head1 (Jvm.Cond.code (⟨"java/lang/String", "<init>", "([BB)V"⟩ : MethodName) jdk_42_method_151_code 3 none :: ws) ({ frames := 1, cells := 0, slots := 0, locals := 12 } : Room)) (fun a U => a = #[(.ref r0), (.ref r1), (.int (0 : Int32))] ∧ Z.Warmed39 U.vm ∧ U.heap = h0) (fun _ _ _ _ _ => True) (fun _ U o U' => ∃ v L, o = .returned v ∧ Q12 Z r0 r1 h0 n0 v U'.heap L ∧ FrameEnd U o U' L ({ frames := 1, cells := 0, slots := 0, locals := 12 } : Room).cells ({ frames := 1, cells := 0, slots := 0, locals := 12 } : Room).slots) := by
 refine MetFree.of_bodySF (plainFor_of_name pnc_java_lang_String) hisR ?_
 intro p e s m args below meth c s₁ Bd hml0 hP hK
 obtain ⟨rfl, hZ, hh⟩ := hP
 have hx := Bd.exec
 have hby := Bd.bytes
 have hml : c.maxLocals = 3 := hml0
 have hown : s.vm.findClass "java/lang/String" = some m.cls := findClass_of_methodNamed Bd.named
 have hnm := (name_of_methodNamed Bd.named Bd.method).1
 have X0 : Stand p l e ({ frames := 1, cells := 0, slots := 0, locals := 12 } : Room) s m #[(.ref r0), (.ref r1), (.int (0 : Int32))] below meth c s₁ [] 0 0 := Stand.of_body Bd
 have e0 : s₁.heap = h0 := by rw [← hh, Bd.state]; rfl
 have N0 := Fr.nil n0
 have kp0 : Keep h0 h0 [r0] := Keep.refl _ _
 have G0 : ∀ t, Steps p.tables e below (s₁.setTop (mkF m 0 #[rv r0, rv r1, iv 0] [])) t → Steps p.tables e below (s₁.setTop (entryFrame m #[(.ref r0), (.ref r1), (.int (0 : Int32))] 3)) t := fun t k => castTop (ef_rm12 m r0 r1 (0 : Int32)) k
 obtain ⟨T1, X1, e1, st1⟩ := initO X0 hx hZ hown (hq hw 63 rfl) (hq hw 25 rfl) (hq hw 26 rfl) e0 (g := (mkF m 1 #[rv r0, rv r1, iv 0] [(.ref r0)])) rfl (by rw [hml]; rfl) rfl (hb hby d12_1) (by decide) (W := 0) (by show 2 * 0 + _ ≤ _; exact Nat.le_of_eq rfl) (by decide)
 obtain ⟨T2, h2, X2, e2, W2, st2⟩ := putF X1 hx hZ hown (host := "") (Or.inl (hq hw 64 rfl)) Via.refl e1 Fv E0 (Or.inr ⟨(hq hw 9 rfl), rfl, hnm⟩) (hq hw 7 rfl) (ty := (.array .byte)) (by decide) rfl rfl (g := (mkF m 6 #[rv r0, rv r1, iv 0] [(.ref r1), (.ref r0)])) rfl rfl (hb hby d12_6)
 have fa3 := E0.wr W2
 have fa4 : Fld Z h2 r0 "java/lang/String" "value" "[B" (.ref r1) := Fv.same W2
 have fa5 := Fc.other W2 (Or.inr (slot_ne (Or.inr (hq hw 10 rfl)) (Or.inr (hq hw 9 rfl)) (by decide) (t := .byte) (t' := (.array .byte)) (by decide) (by decide)))
 have z6 : n0 ≤ h2.size := Nat.le_trans Z0 (Nat.le_of_eq W2.size.symm)
 have kp7 : Keep h0 h2 [r0] := kp0.wr W2 (Or.inl (List.mem_of_getElem? (i := 0) rfl))
 have N2 := Fr.snoc X2 N0 g_r0
 obtain ⟨T8, h8, X8, e8, W8, st8⟩ := putFN X2 hx hZ hown (hq hw 65 rfl) Via.refl e2 fa5 fa3 (Or.inr ⟨(hq hw 10 rfl), rfl, hnm⟩) (hq hw 7 rfl) (ty := .byte) (v' := (.int (0 : Int32))) (by decide) rfl (fits_nar_byte (0 : Int32)) (g := (mkF m 11 #[rv r0, rv r1, iv 0] [(.int (0 : Int32)), (.ref r0)])) rfl rfl (hb hby d12_11)
 have fa9 := fa3.wr W8
 have fa10 := fa4.other W8 (Or.inr (slot_ne (Or.inr (hq hw 9 rfl)) (Or.inr (hq hw 10 rfl)) (by decide) (t := (.array .byte)) (t' := .byte) (by decide) (by decide)))
 have fa11 : Fld Z h8 r0 "java/lang/String" "coder" "B" (.int (0 : Int32)) := fa5.same W8
 have z12 : n0 ≤ h8.size := Nat.le_trans z6 (Nat.le_of_eq W8.size.symm)
 have kp13 : Keep h0 h8 [r0] := kp7.wr W8 (Or.inl (List.mem_of_getElem? (i := 0) rfl))
 have N8 := Fr.snoc X8 N2 g_r0
 obtain ⟨fs, hr, hrun, hended, hW, hsame⟩ := X8.leave (v := none) (fun _ => rfl)
 refine ⟨_, _, G0 _ ?_, hrun, hended, _, _, rfl, ?_, ⟨_, rfl⟩, hW, hsame.mono (by decide) (by decide)⟩
 ·skip
  refine XS.aloadN X0.here hx rfl (hb hby d12_0) rfl rfl ?_
  refine st1 _ ?_
  refine XS.aloadN X1.here hx rfl (hb hby d12_4) rfl rfl ?_
  refine XS.aloadN X1.here hx rfl (hb hby d12_5) rfl rfl ?_
  refine st2 _ ?_
  refine XS.aloadN X2.here hx rfl (hb hby d12_9) rfl rfl ?_
  refine XS.iloadN X2.here hx rfl (hb hby d12_10) rfl ?_
  refine st8 _ ?_
  exact X8.returnOut hx Bd.returns (hb hby d12_14) hr
 ·show Q12 Z r0 r1 h0 n0 _ T8.heap _
  rw [e8]
  exact ⟨rfl, N8, kp13, fa9, fa10, fa11⟩
theorem own_gcl0 {n N : Nat} {x : Value} (h : N = Jvm.Free.SBG.digitsL n) : own_gcl (List.replicate N x) (Jvm.Free.SBG.digitsL n) n = own_ds (Jvm.Free.SBG.digitsL n) n := by
  unfold own_gcl
  rw [Nat.sub_self, List.take_zero, List.nil_append, h, List.drop_replicate, Nat.sub_self]; simp
theorem d9_0 : decode jdk_35_method_12_code 0 = .ok (.lload_n 0, 1) := by decide +kernel
theorem d9_1 : decode jdk_35_method_12_code 1 = .ok (.invokestatic 118, 3) := by decide +kernel
theorem pd_8 : parseMethodDescriptor "(J)I" = some ⟨[.long], some .int⟩ := by decide +kernel
theorem d9_4 : decode jdk_35_method_12_code 4 = .ok (.istore_n 2, 1) := by decide +kernel
theorem d9_5 : decode jdk_35_method_12_code 5 = .ok (.getstatic 13, 3) := by decide +kernel
theorem d9_8 : decode jdk_35_method_12_code 8 = .ok (.ifCond .eq 24, 3) := by decide +kernel
theorem d9_11 : decode jdk_35_method_12_code 11 = .ok (.iload_n 2, 1) := by decide +kernel
theorem d9_12 : decode jdk_35_method_12_code 12 = .ok (.newarray .byte, 2) := by decide +kernel
theorem d9_14 : decode jdk_35_method_12_code 14 = .ok (.astore_n 3, 1) := by decide +kernel
theorem d9_15 : decode jdk_35_method_12_code 15 = .ok (.lload_n 0, 1) := by decide +kernel
theorem d9_16 : decode jdk_35_method_12_code 16 = .ok (.iload_n 2, 1) := by decide +kernel
theorem d9_17 : decode jdk_35_method_12_code 17 = .ok (.aload_n 3, 1) := by decide +kernel
theorem d9_18 : decode jdk_35_method_12_code 18 = .ok (.invokestatic 121, 3) := by decide +kernel
theorem pd_9 : parseMethodDescriptor "(JI[B)I" = some ⟨[.long, .int, (.array .byte)], some .int⟩ := by decide +kernel
theorem d9_21 : decode jdk_35_method_12_code 21 = .ok (.pop, 1) := by decide +kernel
theorem d9_22 : decode jdk_35_method_12_code 22 = .ok (.new 5, 3) := by decide +kernel
theorem d9_25 : decode jdk_35_method_12_code 25 = .ok (.dup, 1) := by decide +kernel
theorem d9_26 : decode jdk_35_method_12_code 26 = .ok (.aload_n 3, 1) := by decide +kernel
theorem d9_27 : decode jdk_35_method_12_code 27 = .ok (.iconst 0, 1) := by decide +kernel
theorem d9_28 : decode jdk_35_method_12_code 28 = .ok (.invokespecial 112, 3) := by decide +kernel
theorem pd_10 : parseMethodDescriptor "([BB)V" = some ⟨[(.array .byte), .byte], none⟩ := by decide +kernel
theorem d9_31 : decode jdk_35_method_12_code 31 = .ok (.areturn, 1) := by decide +kernel
def Q9 (Z : State) (q0 : Int64) (cst : Int32) (fv : Value) (h0 : Heap) (n0 : Nat) (v : Option Value) (h : Heap) (L : List Loc) : Prop := ∃ (s t : Addr) (k : ClassId), v = some (.ref s) ∧ Fr n0 L ∧ Keep h0 h [] ∧ Exa Z h s "java/lang/String" ∧ Fld Z h s "java/lang/String" "coder" "B" (.int (0 : Int32)) ∧ Fld Z h s "java/lang/String" "value" "[B" (.ref t) ∧ Arv Z h t k .byte (Int32.ofNat (Jvm.Free.SBG.digitsL q0.toInt.toNat)) (own_ds (Jvm.Free.SBG.digitsL q0.toInt.toNat) q0.toInt.toNat) (.int (0 : Int32)) ∧ h0.size ≤ s ∧ h0.size ≤ t
theorem ef_rm9 (m : MethodId) (x0 : Int64) : entryFrame m #[(.long x0)] 4 = mkF m 0 #[.val (.long x0), .second, .unset, .unset] [] := by first | (simp [entryFrame, mkF, argsToLocals, Value.category]; done) | rfl
set_option maxRecDepth 65536 in
set_option maxHeartbeats 40000000 in
theorem rm9 (l : Launch) (Z : State) (a0 : Array Value) (hw : ∀ d ∈ tables_1, d.before a0 Z = true) (ws : List Jvm.Cond) (q0 : Int64) (cst : Int32) (fv : Value) (h0 : Heap) (n0 : Nat) (Z0 : n0 ≤ h0.size) (O0 : Old Z n0 h0) (hqn : ¬ (q0 < (0 : Int64))) (TB : own_TB Z) (SS : Sts Z cst fv) :
  MetFree l (⟨"java/lang/Long", "toString", "(J)Ljava/lang/String;"⟩ : MethodName) (head1 (Jvm.Cond.code (⟨"java/lang/Long", "toString", "(J)Ljava/lang/String;"⟩ : MethodName) jdk_35_method_12_code 4 (some (.object "java/lang/String")) :: ws) ({ frames := 2, cells := 2, slots := 24, locals := 102 } : Room)) (fun a U => a = #[(.long q0)] ∧ Z.Warmed39 U.vm ∧ U.heap = h0) (fun _ _ _ _ _ => True) (fun _ U o U' => ∃ v L, o = .returned v ∧ Q9 Z q0 cst fv h0 n0 v U'.heap L ∧ FrameEnd U o U' L ({ frames := 2, cells := 2, slots := 24, locals := 102 } : Room).cells ({ frames := 2, cells := 2, slots := 24, locals := 102 } : Room).slots) := by
 refine MetFree.of_bodySF (plainFor_of_name pnc_java_lang_Long) hisR ?_
 intro p e s m args below meth c s₁ Bd hml0 hP hK
 obtain ⟨rfl, hZ, hh⟩ := hP
 have hx := Bd.exec
 have hby := Bd.bytes
 have hml : c.maxLocals = 4 := hml0
 have hown : s.vm.findClass "java/lang/Long" = some m.cls := findClass_of_methodNamed Bd.named
 have hnm := (name_of_methodNamed Bd.named Bd.method).1
 have X0 : Stand p l e ({ frames := 2, cells := 2, slots := 24, locals := 102 } : Room) s m #[(.long q0)] below meth c s₁ [] 0 0 := Stand.of_body Bd
 have e0 : s₁.heap = h0 := by rw [← hh, Bd.state]; rfl
 have N0 := Fr.nil n0
 have kp0 : Keep h0 h0 [] := Keep.refl _ _
 have G0 : ∀ t, Steps p.tables e below (s₁.setTop (mkF m 0 #[.val (.long q0), .second, .unset, .unset] [])) t → Steps p.tables e below (s₁.setTop (entryFrame m #[(.long q0)] 4)) t := fun t k => castTop (ef_rm9 m q0) k
 obtain ⟨_, _, ⟨T1, L1, k1, n1⟩, -, X1, ⟨Lc1, hQ1, l1, y1, z1⟩, st1⟩ := Jvm.LawKit.callS X0 hx (y := (⟨"java/lang/Long", "stringSize", "(J)I"⟩ : MethodName)) hown (mvT hZ (hq hw 47 rfl)) (mvT hZ (hq hw 48 rfl)) (mvT hZ (hq hw 36 rfl)) (mvT hZ (hq hw 49 rfl)) (by decide) (own_ss (n0 := n0) (W := 0) (h := h0) hZ hw q0 (by decide) (by decide)) (g := (mkF m 1 #[.val (.long q0), .second, .unset, .unset] [(.long q0)])) rfl (by rw [hml]; rfl) (argsL := [(.long q0)]) (rest := []) (lenOf pd_8 rfl) rfl (by show 2 * 0 + _ ≤ _; exact Nat.le_of_eq rfl) (hb hby d9_1) (fun _ _ => ⟨rfl, e0, (by decide : 0 + 0 ≤ _), (by decide : 0 + 0 ≤ _)⟩)
 dsimp only [Pt.U, Pt.locs, Pt.cells, Pt.slots] at X1 l1 y1 z1 st1 hQ1
 subst l1 y1 z1
 obtain ⟨rfl, N1q, eh1⟩ := hQ1
 have N1 := Fr.app N0 N1q
 have G2 : ∀ t, Steps p.tables e below (T1.setTop (mkF m 5 #[.val (.long q0), .second, iv (Jvm.Free.SBG.strSizeOfL q0), .unset] [])) t → Steps p.tables e below (s₁.setTop (entryFrame m #[(.long q0)] 4)) t := by
  intro t kt
  refine G0 _ ?_
  refine XS.lloadN X0.here hx rfl (hb hby d9_0) rfl ?_
  refine st1 _ ?_
  refine XS.istoreN X1.here hx rfl (hb hby d9_4) rfl (l' := #[.val (.long q0), .second, iv (Jvm.Free.SBG.strSizeOfL q0), .unset]) rfl ?_
  exact kt
 obtain ⟨sz, hsz⟩ : ∃ z : Int32, z = (Jvm.Free.SBG.strSizeOfL q0) := ⟨_, rfl⟩
 have G3 : ∀ t, Steps p.tables e below (T1.setTop (mkF m 5 #[.val (.long q0), .second, iv sz, .unset] [])) t → Steps p.tables e below (s₁.setTop (entryFrame m #[(.long q0)] 4)) t := by
  intro t kt
  rw [hsz] at kt
  exact G2 t kt
 have hsz' : sz = Int32.ofNat (Jvm.Free.SBG.digitsL q0.toInt.toNat) := by rw [hsz]; exact own_size hqn
 have hnd := own_ofn (k := Jvm.Free.SBG.digitsL q0.toInt.toNat) (by have := (Jvm.Free.SBG.digitsL_pos (q0.toInt.toNat)).2; omega)
 have hszN : sz.toNatClampNeg = Jvm.Free.SBG.digitsL q0.toInt.toNat := by rw [hsz']; exact hnd.1
 have hsz0 : ¬ (sz < 0) := by rw [hsz']; exact hnd.2.1
 obtain ⟨T4, X4, e4, st4⟩ := getS2 X1 hx hZ hown (host := "") (Or.inl (hq hw 51 rfl)) Via.refl eh1 (SS.1.ext O0.2) (g := (mkF m 5 #[.val (.long q0), .second, iv sz, .unset] [])) rfl (hb hby d9_5)
 have G5 : ∀ t, Steps p.tables e below (T4.setTop (mkF m 8 #[.val (.long q0), .second, iv sz, .unset] [(.int cst)])) t → Steps p.tables e below (s₁.setTop (entryFrame m #[(.long q0)] 4)) t := by
  intro t kt
  refine G3 _ ?_
  refine st4 _ ?_
  exact kt
 have hc8_6 : ¬ (cst = (0 : Int32)) := SS.2.1
 obtain ⟨T7, h7, k7, X7, e7, E7, A7, st7⟩ := newP X4 hx hZ (hq hw 8 rfl) e4 (g := (mkF m 12 #[.val (.long q0), .second, iv sz, .unset] [(.int sz)])) rfl (hb hby d9_12) rfl hsz0 (cap := 20) (by rw [hszN]; exact (Jvm.Free.SBG.digitsL_pos _).2) (by decide) (by decide) (by decide)
 obtain ⟨b7, g7⟩ : ∃ z, z = h0.size := ⟨_, rfl⟩
 rw [← g7] at A7 st7
 have g_b7 : n0 ≤ b7 := Nat.le_trans Z0 (Nat.le_of_eq g7.symm)
 have sz_b7 : h0.size ≤ b7 := Nat.le_trans kp0.1 (Nat.le_of_eq g7.symm)
 have fa8 := O0.ext E7
 have z9 : n0 ≤ h7.size := Nat.le_trans Z0 E7.1
 have kp10 : Keep h0 h7 [] := kp0.ext E7
 have fa11 : Arv Z h7 b7 k7 .byte sz (List.replicate sz.toNatClampNeg (.int (0 : Int32))) (.int (0 : Int32)) := (Arv.new A7 hsz0).pad (pad_rep [] (.int (0 : Int32)) _)
 obtain ⟨_, _, ⟨T12, L12, k12, n12⟩, -, X12, ⟨Lc12, hQ12, l12, y12, z12⟩, st12⟩ := Jvm.LawKit.callS X7 hx (y := (⟨"java/lang/Long", "getChars", "(JI[B)I"⟩ : MethodName)) hown (mvT hZ (hq hw 52 rfl)) (mvT hZ (hq hw 53 rfl)) (mvT hZ (hq hw 36 rfl)) (mvT hZ (hq hw 54 rfl)) (by decide) (own_gc (n0 := n0) (W := 0) hZ hw q0 sz (Jvm.Free.SBG.digitsL q0.toInt.toNat) hqn hsz' fa11 (by rw [List.length_replicate]) (by rw [List.length_replicate, hszN]; exact Nat.le_refl _) (Nat.le_refl _) fa8 g_b7 TB (by decide) (by decide)) (g := (mkF m 18 #[.val (.long q0), .second, iv sz, rv b7] [(.ref b7), (.int sz), (.long q0)])) rfl (by rw [hml]; rfl) (argsL := [(.long q0), (.int sz), (.ref b7)]) (rest := []) (lenOf pd_9 rfl) rfl (by show 2 * 0 + _ ≤ _; exact Nat.le_of_eq rfl) (hb hby d9_18) (fun _ _ => ⟨rfl, e7, (by decide : 1 + 0 ≤ _), (by decide : 20 + 0 ≤ _)⟩)
 dsimp only [Pt.U, Pt.locs, Pt.cells, Pt.slots] at X12 l12 y12 z12 st12 hQ12
 subst l12 y12 z12
 obtain ⟨rv12, rfl, N12q, K12, V12⟩ := hQ12
 have N12 := Fr.app N1 N12q
 have fa13 := fa8.keep K12 (allS g_b7 all0)
 have z14 : n0 ≤ T12.heap.size := Nat.le_trans z9 K12.1
 have kp15 : Keep h0 T12.heap [] := kp10.trans K12 (allS (Or.inr sz_b7) all0)
 obtain ⟨T16, h16, X16, e16, E16, A16, D16, -, st16⟩ := newO X12 hx hZ hown (hq hw 58 rfl) (hq hw 7 rfl) (hq hw 6 rfl) rfl (g := (mkF m 22 #[.val (.long q0), .second, iv sz, rv b7] [])) rfl (hb hby d9_22) (by decide) (by decide)
 obtain ⟨b16, g16⟩ : ∃ z, z = T12.heap.size := ⟨_, rfl⟩
 rw [← g16] at A16 D16 st16
 have g_b16 : n0 ≤ b16 := Nat.le_trans z14 (Nat.le_of_eq g16.symm)
 have sz_b16 : h0.size ≤ b16 := Nat.le_trans kp15.1 (Nat.le_of_eq g16.symm)
 have ne_b7_b16 : b7 ≠ b16 := Nat.ne_of_lt (Nat.lt_of_lt_of_le V12.lt (Nat.le_of_eq g16.symm))
 have fa17 := fa13.ext E16
 have fa18 := V12.ext E16
 have z19 : n0 ≤ h16.size := Nat.le_trans z14 E16.1
 have kp20 : Keep h0 h16 [] := kp15.ext E16
 have fa21 : Fld Z h16 b16 "java/lang/String" "value" "[B" .null := D16 (Or.inr (hq hw 9 rfl)) (ty := (.array .byte)) (by decide)
 have fa22 : Fld Z h16 b16 "java/lang/String" "coder" "B" (.int (0 : Int32)) := D16 (Or.inr (hq hw 10 rfl)) (ty := .byte) (by decide)
 obtain ⟨_, _, ⟨T23, L23, k23, n23⟩, -, X23, ⟨Lc23, hQ23, l23, y23, z23⟩, st23⟩ := X16.specialBack hx (y := (⟨"java/lang/String", "<init>", "([BB)V"⟩ : MethodName)) rfl hown (mvT hZ (hq hw 59 rfl)) (mvT hZ (hq hw 60 rfl)) (mvT hZ (hq hw 62 rfl)) (by decide) (backOf (W := 1) (rm12 l Z a0 hw [] b16 b7  h16 n0 z19 A16 fa21 fa22 g_b16) hZ (hq hw 62 rfl) (hq hw 6 rfl) (by decide) (by decide)) (g := (mkF m 28 #[.val (.long q0), .second, iv sz, rv b7] [(.int (0 : Int32)), (.ref b7), (.ref b16), (.ref b16)])) rfl (by rw [hml]; rfl) (Steps.refl _) (a := b16) (argsL := [(.ref b7), (.int (0 : Int32))]) (rest := [(.ref b16)]) (lenOf pd_10 rfl) rfl (by show 2 * 0 + _ ≤ _; exact Nat.le_of_eq rfl) (hb hby d9_28) (fun _ _ => ⟨rfl, e16, (by decide : 2 + 0 ≤ _), (by decide : 24 + 0 ≤ _)⟩)
 dsimp only [Pt.U, Pt.locs, Pt.cells, Pt.slots] at X23 l23 y23 z23 st23 hQ23
 subst l23 y23 z23
 obtain ⟨rfl, N23q, K23, A23, F23_0, F23_1⟩ := hQ23
 have N23 := Fr.app N12 N23q
 have fa24 := fa17.keep K23 (allS g_b16 all0)
 have fa25 := fa18.keep K23 (ninS ne_b7_b16 nin0)
 have fa26 := A16.keep K23
 have z27 : n0 ≤ T23.heap.size := Nat.le_trans z19 K23.1
 have kp28 : Keep h0 T23.heap [] := kp20.trans K23 (allS (Or.inr sz_b16) all0)
 obtain ⟨fs, hr, hrun, hended, hW, hsame⟩ := X23.leave (v := some (.ref b16)) (fun h => by rw [Bd.returns] at h; cases h)
 refine ⟨_, _, G5 _ ?_, hrun, hended, _, _, rfl, ?_, ⟨_, rfl⟩, hW, hsame.mono (by decide) (by decide)⟩
 ·skip
  refine XS.ifNo X4.here hx rfl (hb hby d9_8) rfl ((if0 _ _).trans (feq hc8_6).1) ?_
  refine XS.iloadN X4.here hx rfl (hb hby d9_11) rfl ?_
  refine st7 _ ?_
  refine XS.astoreN X7.here hx rfl (hb hby d9_14) rfl rfl (l' := #[.val (.long q0), .second, iv sz, rv b7]) rfl ?_
  refine XS.lloadN X7.here hx rfl (hb hby d9_15) rfl ?_
  refine XS.iloadN X7.here hx rfl (hb hby d9_16) rfl ?_
  refine XS.aloadN X7.here hx rfl (hb hby d9_17) rfl rfl ?_
  refine st12 _ ?_
  refine XS.pop X12.here hx rfl (hb hby d9_21) rfl rfl ?_
  refine st16 _ ?_
  refine XS.dup X16.here hx rfl (hb hby d9_25) rfl rfl ?_
  refine XS.aloadN X16.here hx rfl (hb hby d9_26) rfl rfl ?_
  refine XS.iconst X16.here hx rfl (hb hby d9_27) ?_
  refine st23.trans ?_
  exact retOut X23 hx Bd.returns rfl (Or.inr (Or.inr (Or.inr (Or.inr ⟨rfl, rfl, rfl⟩)))) (hb hby d9_31) hr
 ·show Q9 Z q0 cst fv h0 n0 _ T23.heap _
  exact ⟨b16, b7, k7, rfl, N23, kp28, fa26, F23_1, F23_0, by rw [← hsz', ← own_gcl0 hszN]; exact fa25, sz_b16, sz_b7⟩
theorem d8_0 : decode jdk_35_method_1_code 0 = .ok (.iload_n 2, 1) := by decide +kernel
theorem d8_1 : decode jdk_35_method_1_code 1 = .ok (.iconst 2, 1) := by decide +kernel
theorem d8_2 : decode jdk_35_method_1_code 2 = .ok (.if_icmp .lt 9, 3) := by decide +kernel
theorem d8_5 : decode jdk_35_method_1_code 5 = .ok (.iload_n 2, 1) := by decide +kernel
theorem d8_6 : decode jdk_35_method_1_code 6 = .ok (.bipush 36, 2) := by decide +kernel
theorem d8_8 : decode jdk_35_method_1_code 8 = .ok (.if_icmp .le 6, 3) := by decide +kernel
theorem d8_14 : decode jdk_35_method_1_code 14 = .ok (.iload_n 2, 1) := by decide +kernel
theorem d8_15 : decode jdk_35_method_1_code 15 = .ok (.bipush 10, 2) := by decide +kernel
theorem d8_17 : decode jdk_35_method_1_code 17 = .ok (.if_icmp .ne 8, 3) := by decide +kernel
theorem d8_20 : decode jdk_35_method_1_code 20 = .ok (.lload_n 0, 1) := by decide +kernel
theorem d8_21 : decode jdk_35_method_1_code 21 = .ok (.invokestatic 9, 3) := by decide +kernel
theorem pd_11 : parseMethodDescriptor "(J)Ljava/lang/String;" = some ⟨[.long], some (.object "java/lang/String")⟩ := by decide +kernel
theorem d8_24 : decode jdk_35_method_1_code 24 = .ok (.areturn, 1) := by decide +kernel
def Q8 (Z : State) (q0 : Int64) (cst : Int32) (fv : Value) (h0 : Heap) (n0 : Nat) (v : Option Value) (h : Heap) (L : List Loc) : Prop := ∃ (s t : Addr) (k : ClassId), v = some (.ref s) ∧ Fr n0 L ∧ Keep h0 h [] ∧ Exa Z h s "java/lang/String" ∧ Fld Z h s "java/lang/String" "coder" "B" (.int (0 : Int32)) ∧ Fld Z h s "java/lang/String" "value" "[B" (.ref t) ∧ Arv Z h t k .byte (Int32.ofNat (Jvm.Free.SBG.digitsL q0.toInt.toNat)) (own_ds (Jvm.Free.SBG.digitsL q0.toInt.toNat) q0.toInt.toNat) (.int (0 : Int32)) ∧ h0.size ≤ s ∧ h0.size ≤ t
theorem ef_rm8 (m : MethodId) (x0 : Int64) (x1 : Int32) : entryFrame m #[(.long x0), (.int x1)] 6 = mkF m 0 #[.val (.long x0), .second, .val (.int x1), .unset, .unset, .unset] [] := by first | (simp [entryFrame, mkF, argsToLocals, Value.category]; done) | rfl
set_option maxRecDepth 65536 in
set_option maxHeartbeats 40000000 in
theorem rm8 (l : Launch) (Z : State) (a0 : Array Value) (hw : ∀ d ∈ tables_1, d.before a0 Z = true) (ws : List Jvm.Cond) (q0 : Int64) (cst : Int32) (fv : Value) (h0 : Heap) (n0 : Nat) (Z0 : n0 ≤ h0.size) (O0 : Old Z n0 h0) (hqn : ¬ (q0 < (0 : Int64))) (TB : own_TB Z) (SS : Sts Z cst fv) :
  MetFree l (⟨"java/lang/Long", "toString", "(JI)Ljava/lang/String;"⟩ : MethodName) (head1 (Jvm.Cond.code (⟨"java/lang/Long", "toString", "(JI)Ljava/lang/String;"⟩ : MethodName) jdk_35_method_1_code 6 (some (.object "java/lang/String")) :: ws) ({ frames := 3, cells := 2, slots := 24, locals := 117 } : Room)) (fun a U => a = #[(.long q0), (.int (10 : Int32))] ∧ Z.Warmed39 U.vm ∧ U.heap = h0) (fun _ _ _ _ _ => True) (fun _ U o U' => ∃ v L, o = .returned v ∧ Q8 Z q0 cst fv h0 n0 v U'.heap L ∧ FrameEnd U o U' L ({ frames := 3, cells := 2, slots := 24, locals := 117 } : Room).cells ({ frames := 3, cells := 2, slots := 24, locals := 117 } : Room).slots) := by
 refine MetFree.of_bodySF (plainFor_of_name pnc_java_lang_Long) hisR ?_
 intro p e s m args below meth c s₁ Bd hml0 hP hK
 obtain ⟨rfl, hZ, hh⟩ := hP
 have hx := Bd.exec
 have hby := Bd.bytes
 have hml : c.maxLocals = 6 := hml0
 have hown : s.vm.findClass "java/lang/Long" = some m.cls := findClass_of_methodNamed Bd.named
 have hnm := (name_of_methodNamed Bd.named Bd.method).1
 have X0 : Stand p l e ({ frames := 3, cells := 2, slots := 24, locals := 117 } : Room) s m #[(.long q0), (.int (10 : Int32))] below meth c s₁ [] 0 0 := Stand.of_body Bd
 have e0 : s₁.heap = h0 := by rw [← hh, Bd.state]; rfl
 have N0 := Fr.nil n0
 have kp0 : Keep h0 h0 [] := Keep.refl _ _
 have G0 : ∀ t, Steps p.tables e below (s₁.setTop (mkF m 0 #[.val (.long q0), .second, iv 10, .unset, .unset, .unset] [])) t → Steps p.tables e below (s₁.setTop (entryFrame m #[(.long q0), (.int (10 : Int32))] 6)) t := fun t k => castTop (ef_rm8 m q0 (10 : Int32)) k
 have G1 : ∀ t, Steps p.tables e below (s₁.setTop (mkF m 2 #[.val (.long q0), .second, iv 10, .unset, .unset, .unset] [(.int (2 : Int32)), (.int (10 : Int32))])) t → Steps p.tables e below (s₁.setTop (entryFrame m #[(.long q0), (.int (10 : Int32))] 6)) t := by
  intro t kt
  refine G0 _ ?_
  refine XS.iloadN X0.here hx rfl (hb hby d8_0) rfl ?_
  refine XS.iconst X0.here hx rfl (hb hby d8_1) ?_
  exact kt
 have G2 : ∀ t, Steps p.tables e below (s₁.setTop (mkF m 8 #[.val (.long q0), .second, iv 10, .unset, .unset, .unset] [(.int (36 : Int32)), (.int (10 : Int32))])) t → Steps p.tables e below (s₁.setTop (entryFrame m #[(.long q0), (.int (10 : Int32))] 6)) t := by
  intro t kt
  refine G1 _ ?_
  refine XS.icmpNo X0.here hx rfl (hb hby d8_2) rfl (flt (by decide)).1 ?_
  refine XS.iloadN X0.here hx rfl (hb hby d8_5) rfl ?_
  refine XS.bipush X0.here hx rfl (hb hby d8_6) ?_
  exact kt
 have G3 : ∀ t, Steps p.tables e below (s₁.setTop (mkF m 17 #[.val (.long q0), .second, iv 10, .unset, .unset, .unset] [(.int (10 : Int32)), (.int (10 : Int32))])) t → Steps p.tables e below (s₁.setTop (entryFrame m #[(.long q0), (.int (10 : Int32))] 6)) t := by
  intro t kt
  refine G2 _ ?_
  refine XS.icmpYes X0.here hx rfl (pc0 := 8) (pc' := 14) rfl (hb hby d8_8) rfl (flt (by decide)).2.2.2 (by decide) (by decide) ?_
  refine XS.iloadN X0.here hx rfl (hb hby d8_14) rfl ?_
  refine XS.bipush X0.here hx rfl (hb hby d8_15) ?_
  exact kt
 obtain ⟨_, _, ⟨T4, L4, k4, n4⟩, -, X4, ⟨Lc4, hQ4, l4, y4, z4⟩, st4⟩ := Jvm.LawKit.callS X0 hx (y := (⟨"java/lang/Long", "toString", "(J)Ljava/lang/String;"⟩ : MethodName)) hown (mvT hZ (hq hw 44 rfl)) (mvT hZ (hq hw 45 rfl)) (mvT hZ (hq hw 36 rfl)) (mvT hZ (hq hw 46 rfl)) (by decide) (backOf (W := 0) (rm9 l Z a0 hw [] q0  cst fv h0 n0 Z0  O0 hqn TB SS) hZ (hq hw 46 rfl) (hq hw 36 rfl) (by decide) (by decide)) (g := (mkF m 21 #[.val (.long q0), .second, iv 10, .unset, .unset, .unset] [(.long q0)])) rfl (by rw [hml]; rfl) (argsL := [(.long q0)]) (rest := []) (lenOf pd_11 rfl) rfl (by show 2 * 0 + _ ≤ _; exact Nat.le_of_eq rfl) (hb hby d8_21) (fun _ _ => ⟨rfl, e0, (by decide : 0 + 2 ≤ _), (by decide : 0 + 24 ≤ _)⟩)
 dsimp only [Pt.U, Pt.locs, Pt.cells, Pt.slots] at X4 l4 y4 z4 st4 hQ4
 subst l4 y4 z4
 obtain ⟨s4, t4, kb4, rfl, N4q, K4, A4, Fc4, Fv4, V4, zs4, zt4⟩ := hQ4
 have N4 := Fr.app N0 N4q
 have zsk4 : h0.size ≤ s4 := Nat.le_trans kp0.1 zs4
 have ztk4 : h0.size ≤ t4 := Nat.le_trans kp0.1 zt4
 have fa5 := O0.keep K4 all0
 have z6 : n0 ≤ T4.heap.size := Nat.le_trans Z0 K4.1
 have kp7 : Keep h0 T4.heap [] := kp0.trans K4 all0
 obtain ⟨fs, hr, hrun, hended, hW, hsame⟩ := X4.leave (v := some (.ref s4)) (fun h => by rw [Bd.returns] at h; cases h)
 refine ⟨_, _, G3 _ ?_, hrun, hended, _, _, rfl, ?_, ⟨_, rfl⟩, hW, hsame.mono (by decide) (by decide)⟩
 ·skip
  refine XS.icmpNo X0.here hx rfl (hb hby d8_17) rfl (teq (by decide)).2 ?_
  refine XS.lloadN X0.here hx rfl (hb hby d8_20) rfl ?_
  refine st4 _ ?_
  exact retOut X4 hx Bd.returns rfl (Or.inr (Or.inr (Or.inr (Or.inr ⟨rfl, rfl, rfl⟩)))) (hb hby d8_24) hr
 ·show Q8 Z q0 cst fv h0 n0 _ T4.heap _
  exact ⟨s4, t4, kb4, rfl, N4, kp7, A4, Fc4, Fv4, V4, zsk4, ztk4⟩
def own_z16 : List Value := [(.int (0 : Int32)), (.int (0 : Int32)), (.int (0 : Int32)), (.int (0 : Int32)), (.int (0 : Int32)), (.int (0 : Int32)), (.int (0 : Int32)), (.int (0 : Int32)), (.int (0 : Int32)), (.int (0 : Int32)), (.int (0 : Int32)), (.int (0 : Int32)), (.int (0 : Int32)), (.int (0 : Int32)), (.int (0 : Int32)), (.int (0 : Int32))]
def own_z34 : List Value := [(.int (0 : Int32)), (.int (0 : Int32)), (.int (0 : Int32)), (.int (0 : Int32)), (.int (0 : Int32)), (.int (0 : Int32)), (.int (0 : Int32)), (.int (0 : Int32)), (.int (0 : Int32)), (.int (0 : Int32)), (.int (0 : Int32)), (.int (0 : Int32)), (.int (0 : Int32)), (.int (0 : Int32)), (.int (0 : Int32)), (.int (0 : Int32)), (.int (0 : Int32)), (.int (0 : Int32)), (.int (0 : Int32)), (.int (0 : Int32)), (.int (0 : Int32)), (.int (0 : Int32)), (.int (0 : Int32)), (.int (0 : Int32)), (.int (0 : Int32)), (.int (0 : Int32)), (.int (0 : Int32)), (.int (0 : Int32)), (.int (0 : Int32)), (.int (0 : Int32)), (.int (0 : Int32)), (.int (0 : Int32)), (.int (0 : Int32)), (.int (0 : Int32))]
theorem d34_0 : decode jdk_29_method_65_code 0 = .ok (.iload_n 0, 1) := by decide +kernel
theorem d34_1 : decode jdk_29_method_65_code 1 = .ok (.iload_n 1, 1) := by decide +kernel
theorem d34_2 : decode jdk_29_method_65_code 2 = .ok (.if_icmp .lt 7, 3) := by decide +kernel
theorem d34_9 : decode jdk_29_method_65_code 9 = .ok (.iload_n 1, 1) := by decide +kernel
theorem d34_10 : decode jdk_29_method_65_code 10 = .ok (.ireturn, 1) := by decide +kernel
def QL34_2_18 (Z : State)  (h0 : Heap) (n0 : Nat) (v : Option Value) (h : Heap) (L : List Loc) : Prop := v = some (.int (18 : Int32)) ∧ Fr n0 L ∧ h = h0
theorem ef_rmL34_2_18 (m : MethodId) (x0 : Int32) (x1 : Int32) : entryFrame m #[(.int x0), (.int x1)] 2 = mkF m 0 #[.val (.int x0), .val (.int x1)] [] := by first | (simp [entryFrame, mkF, argsToLocals, Value.category]; done) | rfl
set_option maxRecDepth 65536 in
set_option maxHeartbeats 40000000 in
theorem rmL34_2_18 (l : Launch) (Z : State) (a0 : Array Value) (hw : ∀ d ∈ tables_1, d.before a0 Z = true) (ws : List Jvm.Cond)  (h0 : Heap) (n0 : Nat) (Z0 : n0 ≤ h0.size) :
  MetFree l (⟨"java/lang/Math", "max", "(II)I"⟩ : MethodName) (head1 (Jvm.Cond.code (⟨"java/lang/Math", "max", "(II)I"⟩ : MethodName) jdk_29_method_65_code 2 (some .int) :: ws) ({ frames := 0, cells := 0, slots := 0, locals := 0 } : Room)) (fun a U => a = #[(.int (2 : Int32)), (.int (18 : Int32))] ∧ Z.Warmed39 U.vm ∧ U.heap = h0) (fun _ _ _ _ _ => True) (fun _ U o U' => ∃ v L, o = .returned v ∧ QL34_2_18 Z  h0 n0 v U'.heap L ∧ FrameEnd U o U' L ({ frames := 0, cells := 0, slots := 0, locals := 0 } : Room).cells ({ frames := 0, cells := 0, slots := 0, locals := 0 } : Room).slots) := by
 refine MetFree.of_bodySF (Jvm.Free.JP.mathPlain rfl (by decide +kernel)) hisR ?_
 intro p e s m args below meth c s₁ Bd hml0 hP hK
 obtain ⟨rfl, hZ, hh⟩ := hP
 have hx := Bd.exec
 have hby := Bd.bytes
 have hml : c.maxLocals = 2 := hml0
 have hown : s.vm.findClass "java/lang/Math" = some m.cls := findClass_of_methodNamed Bd.named
 have hnm := (name_of_methodNamed Bd.named Bd.method).1
 have X0 : Stand p l e ({ frames := 0, cells := 0, slots := 0, locals := 0 } : Room) s m #[(.int (2 : Int32)), (.int (18 : Int32))] below meth c s₁ [] 0 0 := Stand.of_body Bd
 have e0 : s₁.heap = h0 := by rw [← hh, Bd.state]; rfl
 have N0 := Fr.nil n0
 have kp0 : Keep h0 h0 [] := Keep.refl _ _
 have G0 : ∀ t, Steps p.tables e below (s₁.setTop (mkF m 0 #[iv 2, iv 18] [])) t → Steps p.tables e below (s₁.setTop (entryFrame m #[(.int (2 : Int32)), (.int (18 : Int32))] 2)) t := fun t k => castTop (ef_rmL34_2_18 m (2 : Int32) (18 : Int32)) k
 have G1 : ∀ t, Steps p.tables e below (s₁.setTop (mkF m 2 #[iv 2, iv 18] [(.int (18 : Int32)), (.int (2 : Int32))])) t → Steps p.tables e below (s₁.setTop (entryFrame m #[(.int (2 : Int32)), (.int (18 : Int32))] 2)) t := by
  intro t kt
  refine G0 _ ?_
  refine XS.iloadN X0.here hx rfl (hb hby d34_0) rfl ?_
  refine XS.iloadN X0.here hx rfl (hb hby d34_1) rfl ?_
  exact kt
 obtain ⟨fs, hr, hrun, hended, hW, hsame⟩ := X0.leave (v := some (.int (18 : Int32))) (fun h => by rw [Bd.returns] at h; cases h)
 refine ⟨_, _, G1 _ ?_, hrun, hended, _, _, rfl, ?_, ⟨_, rfl⟩, hW, hsame.mono (by decide) (by decide)⟩
 ·skip
  refine XS.icmpYes X0.here hx rfl (pc0 := 2) (pc' := 9) rfl (hb hby d34_2) rfl (tlt (by decide)).1 (by decide) (by decide) ?_
  refine XS.iloadN X0.here hx rfl (hb hby d34_9) rfl ?_
  exact retI X0 hx Bd.returns (hb hby d34_10) hr
 ·show QL34_2_18 Z  h0 n0 _ s₁.heap _
  rw [e0]
  exact ⟨rfl, N0, rfl⟩
def QL34_3_18 (Z : State)  (h0 : Heap) (n0 : Nat) (v : Option Value) (h : Heap) (L : List Loc) : Prop := v = some (.int (18 : Int32)) ∧ Fr n0 L ∧ h = h0
theorem ef_rmL34_3_18 (m : MethodId) (x0 : Int32) (x1 : Int32) : entryFrame m #[(.int x0), (.int x1)] 2 = mkF m 0 #[.val (.int x0), .val (.int x1)] [] := by first | (simp [entryFrame, mkF, argsToLocals, Value.category]; done) | rfl
set_option maxRecDepth 65536 in
set_option maxHeartbeats 40000000 in
theorem rmL34_3_18 (l : Launch) (Z : State) (a0 : Array Value) (hw : ∀ d ∈ tables_1, d.before a0 Z = true) (ws : List Jvm.Cond)  (h0 : Heap) (n0 : Nat) (Z0 : n0 ≤ h0.size) :
  MetFree l (⟨"java/lang/Math", "max", "(II)I"⟩ : MethodName) (head1 (Jvm.Cond.code (⟨"java/lang/Math", "max", "(II)I"⟩ : MethodName) jdk_29_method_65_code 2 (some .int) :: ws) ({ frames := 0, cells := 0, slots := 0, locals := 0 } : Room)) (fun a U => a = #[(.int (3 : Int32)), (.int (18 : Int32))] ∧ Z.Warmed39 U.vm ∧ U.heap = h0) (fun _ _ _ _ _ => True) (fun _ U o U' => ∃ v L, o = .returned v ∧ QL34_3_18 Z  h0 n0 v U'.heap L ∧ FrameEnd U o U' L ({ frames := 0, cells := 0, slots := 0, locals := 0 } : Room).cells ({ frames := 0, cells := 0, slots := 0, locals := 0 } : Room).slots) := by
 refine MetFree.of_bodySF (Jvm.Free.JP.mathPlain rfl (by decide +kernel)) hisR ?_
 intro p e s m args below meth c s₁ Bd hml0 hP hK
 obtain ⟨rfl, hZ, hh⟩ := hP
 have hx := Bd.exec
 have hby := Bd.bytes
 have hml : c.maxLocals = 2 := hml0
 have hown : s.vm.findClass "java/lang/Math" = some m.cls := findClass_of_methodNamed Bd.named
 have hnm := (name_of_methodNamed Bd.named Bd.method).1
 have X0 : Stand p l e ({ frames := 0, cells := 0, slots := 0, locals := 0 } : Room) s m #[(.int (3 : Int32)), (.int (18 : Int32))] below meth c s₁ [] 0 0 := Stand.of_body Bd
 have e0 : s₁.heap = h0 := by rw [← hh, Bd.state]; rfl
 have N0 := Fr.nil n0
 have kp0 : Keep h0 h0 [] := Keep.refl _ _
 have G0 : ∀ t, Steps p.tables e below (s₁.setTop (mkF m 0 #[iv 3, iv 18] [])) t → Steps p.tables e below (s₁.setTop (entryFrame m #[(.int (3 : Int32)), (.int (18 : Int32))] 2)) t := fun t k => castTop (ef_rmL34_3_18 m (3 : Int32) (18 : Int32)) k
 have G1 : ∀ t, Steps p.tables e below (s₁.setTop (mkF m 2 #[iv 3, iv 18] [(.int (18 : Int32)), (.int (3 : Int32))])) t → Steps p.tables e below (s₁.setTop (entryFrame m #[(.int (3 : Int32)), (.int (18 : Int32))] 2)) t := by
  intro t kt
  refine G0 _ ?_
  refine XS.iloadN X0.here hx rfl (hb hby d34_0) rfl ?_
  refine XS.iloadN X0.here hx rfl (hb hby d34_1) rfl ?_
  exact kt
 obtain ⟨fs, hr, hrun, hended, hW, hsame⟩ := X0.leave (v := some (.int (18 : Int32))) (fun h => by rw [Bd.returns] at h; cases h)
 refine ⟨_, _, G1 _ ?_, hrun, hended, _, _, rfl, ?_, ⟨_, rfl⟩, hW, hsame.mono (by decide) (by decide)⟩
 ·skip
  refine XS.icmpYes X0.here hx rfl (pc0 := 2) (pc' := 9) rfl (hb hby d34_2) rfl (tlt (by decide)).1 (by decide) (by decide) ?_
  refine XS.iloadN X0.here hx rfl (hb hby d34_9) rfl ?_
  exact retI X0 hx Bd.returns (hb hby d34_10) hr
 ·show QL34_3_18 Z  h0 n0 _ s₁.heap _
  rw [e0]
  exact ⟨rfl, N0, rfl⟩
theorem d36_0 : decode jdk_29_method_69_code 0 = .ok (.iload_n 0, 1) := by decide +kernel
theorem d36_1 : decode jdk_29_method_69_code 1 = .ok (.iload_n 1, 1) := by decide +kernel
theorem d36_2 : decode jdk_29_method_69_code 2 = .ok (.if_icmp .gt 7, 3) := by decide +kernel
theorem d36_5 : decode jdk_29_method_69_code 5 = .ok (.iload_n 0, 1) := by decide +kernel
theorem d36_6 : decode jdk_29_method_69_code 6 = .ok (.goto 4, 3) := by decide +kernel
theorem d36_10 : decode jdk_29_method_69_code 10 = .ok (.ireturn, 1) := by decide +kernel
def QL36_16_34 (Z : State)  (h0 : Heap) (n0 : Nat) (v : Option Value) (h : Heap) (L : List Loc) : Prop := v = some (.int (16 : Int32)) ∧ Fr n0 L ∧ h = h0
theorem ef_rmL36_16_34 (m : MethodId) (x0 : Int32) (x1 : Int32) : entryFrame m #[(.int x0), (.int x1)] 2 = mkF m 0 #[.val (.int x0), .val (.int x1)] [] := by first | (simp [entryFrame, mkF, argsToLocals, Value.category]; done) | rfl
set_option maxRecDepth 65536 in
set_option maxHeartbeats 40000000 in
theorem rmL36_16_34 (l : Launch) (Z : State) (a0 : Array Value) (hw : ∀ d ∈ tables_1, d.before a0 Z = true) (ws : List Jvm.Cond)  (h0 : Heap) (n0 : Nat) (Z0 : n0 ≤ h0.size) :
  MetFree l (⟨"java/lang/Math", "min", "(II)I"⟩ : MethodName) (head1 (Jvm.Cond.code (⟨"java/lang/Math", "min", "(II)I"⟩ : MethodName) jdk_29_method_69_code 2 (some .int) :: ws) ({ frames := 0, cells := 0, slots := 0, locals := 0 } : Room)) (fun a U => a = #[(.int (16 : Int32)), (.int (34 : Int32))] ∧ Z.Warmed39 U.vm ∧ U.heap = h0) (fun _ _ _ _ _ => True) (fun _ U o U' => ∃ v L, o = .returned v ∧ QL36_16_34 Z  h0 n0 v U'.heap L ∧ FrameEnd U o U' L ({ frames := 0, cells := 0, slots := 0, locals := 0 } : Room).cells ({ frames := 0, cells := 0, slots := 0, locals := 0 } : Room).slots) := by
 refine MetFree.of_bodySF (Jvm.Free.JP.mathPlain rfl (by decide +kernel)) hisR ?_
 intro p e s m args below meth c s₁ Bd hml0 hP hK
 obtain ⟨rfl, hZ, hh⟩ := hP
 have hx := Bd.exec
 have hby := Bd.bytes
 have hml : c.maxLocals = 2 := hml0
 have hown : s.vm.findClass "java/lang/Math" = some m.cls := findClass_of_methodNamed Bd.named
 have hnm := (name_of_methodNamed Bd.named Bd.method).1
 have X0 : Stand p l e ({ frames := 0, cells := 0, slots := 0, locals := 0 } : Room) s m #[(.int (16 : Int32)), (.int (34 : Int32))] below meth c s₁ [] 0 0 := Stand.of_body Bd
 have e0 : s₁.heap = h0 := by rw [← hh, Bd.state]; rfl
 have N0 := Fr.nil n0
 have kp0 : Keep h0 h0 [] := Keep.refl _ _
 have G0 : ∀ t, Steps p.tables e below (s₁.setTop (mkF m 0 #[iv 16, iv 34] [])) t → Steps p.tables e below (s₁.setTop (entryFrame m #[(.int (16 : Int32)), (.int (34 : Int32))] 2)) t := fun t k => castTop (ef_rmL36_16_34 m (16 : Int32) (34 : Int32)) k
 have G1 : ∀ t, Steps p.tables e below (s₁.setTop (mkF m 2 #[iv 16, iv 34] [(.int (34 : Int32)), (.int (16 : Int32))])) t → Steps p.tables e below (s₁.setTop (entryFrame m #[(.int (16 : Int32)), (.int (34 : Int32))] 2)) t := by
  intro t kt
  refine G0 _ ?_
  refine XS.iloadN X0.here hx rfl (hb hby d36_0) rfl ?_
  refine XS.iloadN X0.here hx rfl (hb hby d36_1) rfl ?_
  exact kt
 obtain ⟨fs, hr, hrun, hended, hW, hsame⟩ := X0.leave (v := some (.int (16 : Int32))) (fun h => by rw [Bd.returns] at h; cases h)
 refine ⟨_, _, G1 _ ?_, hrun, hended, _, _, rfl, ?_, ⟨_, rfl⟩, hW, hsame.mono (by decide) (by decide)⟩
 ·skip
  refine XS.icmpNo X0.here hx rfl (hb hby d36_2) rfl (flt (by decide)).2.2.1 ?_
  refine XS.iloadN X0.here hx rfl (hb hby d36_5) rfl ?_
  refine XS.goto X0.here hx rfl (pc0 := 6) (pc' := 10) rfl (hb hby d36_6) (by decide) (by decide) ?_
  exact retI X0 hx Bd.returns (hb hby d36_10) hr
 ·show QL36_16_34 Z  h0 n0 _ s₁.heap _
  rw [e0]
  exact ⟨rfl, N0, rfl⟩
theorem d36_9 : decode jdk_29_method_69_code 9 = .ok (.iload_n 1, 1) := by decide +kernel
def QL36_34_19 (Z : State)  (h0 : Heap) (n0 : Nat) (v : Option Value) (h : Heap) (L : List Loc) : Prop := v = some (.int (19 : Int32)) ∧ Fr n0 L ∧ h = h0
theorem ef_rmL36_34_19 (m : MethodId) (x0 : Int32) (x1 : Int32) : entryFrame m #[(.int x0), (.int x1)] 2 = mkF m 0 #[.val (.int x0), .val (.int x1)] [] := by first | (simp [entryFrame, mkF, argsToLocals, Value.category]; done) | rfl
set_option maxRecDepth 65536 in
set_option maxHeartbeats 40000000 in
theorem rmL36_34_19 (l : Launch) (Z : State) (a0 : Array Value) (hw : ∀ d ∈ tables_1, d.before a0 Z = true) (ws : List Jvm.Cond)  (h0 : Heap) (n0 : Nat) (Z0 : n0 ≤ h0.size) :
  MetFree l (⟨"java/lang/Math", "min", "(II)I"⟩ : MethodName) (head1 (Jvm.Cond.code (⟨"java/lang/Math", "min", "(II)I"⟩ : MethodName) jdk_29_method_69_code 2 (some .int) :: ws) ({ frames := 0, cells := 0, slots := 0, locals := 0 } : Room)) (fun a U => a = #[(.int (34 : Int32)), (.int (19 : Int32))] ∧ Z.Warmed39 U.vm ∧ U.heap = h0) (fun _ _ _ _ _ => True) (fun _ U o U' => ∃ v L, o = .returned v ∧ QL36_34_19 Z  h0 n0 v U'.heap L ∧ FrameEnd U o U' L ({ frames := 0, cells := 0, slots := 0, locals := 0 } : Room).cells ({ frames := 0, cells := 0, slots := 0, locals := 0 } : Room).slots) := by
 refine MetFree.of_bodySF (Jvm.Free.JP.mathPlain rfl (by decide +kernel)) hisR ?_
 intro p e s m args below meth c s₁ Bd hml0 hP hK
 obtain ⟨rfl, hZ, hh⟩ := hP
 have hx := Bd.exec
 have hby := Bd.bytes
 have hml : c.maxLocals = 2 := hml0
 have hown : s.vm.findClass "java/lang/Math" = some m.cls := findClass_of_methodNamed Bd.named
 have hnm := (name_of_methodNamed Bd.named Bd.method).1
 have X0 : Stand p l e ({ frames := 0, cells := 0, slots := 0, locals := 0 } : Room) s m #[(.int (34 : Int32)), (.int (19 : Int32))] below meth c s₁ [] 0 0 := Stand.of_body Bd
 have e0 : s₁.heap = h0 := by rw [← hh, Bd.state]; rfl
 have N0 := Fr.nil n0
 have kp0 : Keep h0 h0 [] := Keep.refl _ _
 have G0 : ∀ t, Steps p.tables e below (s₁.setTop (mkF m 0 #[iv 34, iv 19] [])) t → Steps p.tables e below (s₁.setTop (entryFrame m #[(.int (34 : Int32)), (.int (19 : Int32))] 2)) t := fun t k => castTop (ef_rmL36_34_19 m (34 : Int32) (19 : Int32)) k
 have G1 : ∀ t, Steps p.tables e below (s₁.setTop (mkF m 2 #[iv 34, iv 19] [(.int (19 : Int32)), (.int (34 : Int32))])) t → Steps p.tables e below (s₁.setTop (entryFrame m #[(.int (34 : Int32)), (.int (19 : Int32))] 2)) t := by
  intro t kt
  refine G0 _ ?_
  refine XS.iloadN X0.here hx rfl (hb hby d36_0) rfl ?_
  refine XS.iloadN X0.here hx rfl (hb hby d36_1) rfl ?_
  exact kt
 obtain ⟨fs, hr, hrun, hended, hW, hsame⟩ := X0.leave (v := some (.int (19 : Int32))) (fun h => by rw [Bd.returns] at h; cases h)
 refine ⟨_, _, G1 _ ?_, hrun, hended, _, _, rfl, ?_, ⟨_, rfl⟩, hW, hsame.mono (by decide) (by decide)⟩
 ·skip
  refine XS.icmpYes X0.here hx rfl (pc0 := 2) (pc' := 9) rfl (hb hby d36_2) rfl (tlt (by decide)).2.2.1 (by decide) (by decide) ?_
  refine XS.iloadN X0.here hx rfl (hb hby d36_9) rfl ?_
  exact retI X0 hx Bd.returns (hb hby d36_10) hr
 ·show QL36_34_19 Z  h0 n0 _ s₁.heap _
  rw [e0]
  exact ⟨rfl, N0, rfl⟩
def QL36_34_20 (Z : State)  (h0 : Heap) (n0 : Nat) (v : Option Value) (h : Heap) (L : List Loc) : Prop := v = some (.int (20 : Int32)) ∧ Fr n0 L ∧ h = h0
theorem ef_rmL36_34_20 (m : MethodId) (x0 : Int32) (x1 : Int32) : entryFrame m #[(.int x0), (.int x1)] 2 = mkF m 0 #[.val (.int x0), .val (.int x1)] [] := by first | (simp [entryFrame, mkF, argsToLocals, Value.category]; done) | rfl
set_option maxRecDepth 65536 in
set_option maxHeartbeats 40000000 in
theorem rmL36_34_20 (l : Launch) (Z : State) (a0 : Array Value) (hw : ∀ d ∈ tables_1, d.before a0 Z = true) (ws : List Jvm.Cond)  (h0 : Heap) (n0 : Nat) (Z0 : n0 ≤ h0.size) :
  MetFree l (⟨"java/lang/Math", "min", "(II)I"⟩ : MethodName) (head1 (Jvm.Cond.code (⟨"java/lang/Math", "min", "(II)I"⟩ : MethodName) jdk_29_method_69_code 2 (some .int) :: ws) ({ frames := 0, cells := 0, slots := 0, locals := 0 } : Room)) (fun a U => a = #[(.int (34 : Int32)), (.int (20 : Int32))] ∧ Z.Warmed39 U.vm ∧ U.heap = h0) (fun _ _ _ _ _ => True) (fun _ U o U' => ∃ v L, o = .returned v ∧ QL36_34_20 Z  h0 n0 v U'.heap L ∧ FrameEnd U o U' L ({ frames := 0, cells := 0, slots := 0, locals := 0 } : Room).cells ({ frames := 0, cells := 0, slots := 0, locals := 0 } : Room).slots) := by
 refine MetFree.of_bodySF (Jvm.Free.JP.mathPlain rfl (by decide +kernel)) hisR ?_
 intro p e s m args below meth c s₁ Bd hml0 hP hK
 obtain ⟨rfl, hZ, hh⟩ := hP
 have hx := Bd.exec
 have hby := Bd.bytes
 have hml : c.maxLocals = 2 := hml0
 have hown : s.vm.findClass "java/lang/Math" = some m.cls := findClass_of_methodNamed Bd.named
 have hnm := (name_of_methodNamed Bd.named Bd.method).1
 have X0 : Stand p l e ({ frames := 0, cells := 0, slots := 0, locals := 0 } : Room) s m #[(.int (34 : Int32)), (.int (20 : Int32))] below meth c s₁ [] 0 0 := Stand.of_body Bd
 have e0 : s₁.heap = h0 := by rw [← hh, Bd.state]; rfl
 have N0 := Fr.nil n0
 have kp0 : Keep h0 h0 [] := Keep.refl _ _
 have G0 : ∀ t, Steps p.tables e below (s₁.setTop (mkF m 0 #[iv 34, iv 20] [])) t → Steps p.tables e below (s₁.setTop (entryFrame m #[(.int (34 : Int32)), (.int (20 : Int32))] 2)) t := fun t k => castTop (ef_rmL36_34_20 m (34 : Int32) (20 : Int32)) k
 have G1 : ∀ t, Steps p.tables e below (s₁.setTop (mkF m 2 #[iv 34, iv 20] [(.int (20 : Int32)), (.int (34 : Int32))])) t → Steps p.tables e below (s₁.setTop (entryFrame m #[(.int (34 : Int32)), (.int (20 : Int32))] 2)) t := by
  intro t kt
  refine G0 _ ?_
  refine XS.iloadN X0.here hx rfl (hb hby d36_0) rfl ?_
  refine XS.iloadN X0.here hx rfl (hb hby d36_1) rfl ?_
  exact kt
 obtain ⟨fs, hr, hrun, hended, hW, hsame⟩ := X0.leave (v := some (.int (20 : Int32))) (fun h => by rw [Bd.returns] at h; cases h)
 refine ⟨_, _, G1 _ ?_, hrun, hended, _, _, rfl, ?_, ⟨_, rfl⟩, hW, hsame.mono (by decide) (by decide)⟩
 ·skip
  refine XS.icmpYes X0.here hx rfl (pc0 := 2) (pc' := 9) rfl (hb hby d36_2) rfl (tlt (by decide)).2.2.1 (by decide) (by decide) ?_
  refine XS.iloadN X0.here hx rfl (hb hby d36_9) rfl ?_
  exact retI X0 hx Bd.returns (hb hby d36_10) hr
 ·show QL36_34_20 Z  h0 n0 _ s₁.heap _
  rw [e0]
  exact ⟨rfl, N0, rfl⟩
theorem d33_0 : decode jdk_48_method_27_code 0 = .ok (.iload_n 0, 1) := by decide +kernel
theorem d33_1 : decode jdk_48_method_27_code 1 = .ok (.iload_n 1, 1) := by decide +kernel
theorem d33_2 : decode jdk_48_method_27_code 2 = .ok (.iload_n 2, 1) := by decide +kernel
theorem d33_3 : decode jdk_48_method_27_code 3 = .ok (.invokestatic 194, 3) := by decide +kernel
theorem pd_12 : parseMethodDescriptor "(II)I" = some ⟨[.int, .int], some .int⟩ := by decide +kernel
theorem d33_6 : decode jdk_48_method_27_code 6 = .ok (.iadd, 1) := by decide +kernel
theorem d33_7 : decode jdk_48_method_27_code 7 = .ok (.istore_n 3, 1) := by decide +kernel
theorem d33_8 : decode jdk_48_method_27_code 8 = .ok (.iconst 0, 1) := by decide +kernel
theorem d33_9 : decode jdk_48_method_27_code 9 = .ok (.iload_n 3, 1) := by decide +kernel
theorem d33_10 : decode jdk_48_method_27_code 10 = .ok (.if_icmp .ge 11, 3) := by decide +kernel
theorem d33_13 : decode jdk_48_method_27_code 13 = .ok (.iload_n 3, 1) := by decide +kernel
theorem d33_14 : decode jdk_48_method_27_code 14 = .ok (.ldc 200, 2) := by decide +kernel
theorem d33_16 : decode jdk_48_method_27_code 16 = .ok (.if_icmp .gt 5, 3) := by decide +kernel
theorem d33_19 : decode jdk_48_method_27_code 19 = .ok (.iload_n 3, 1) := by decide +kernel
theorem d33_20 : decode jdk_48_method_27_code 20 = .ok (.ireturn, 1) := by decide +kernel
def QL33_16_2_18 (Z : State)  (h0 : Heap) (n0 : Nat) (v : Option Value) (h : Heap) (L : List Loc) : Prop := v = some (.int (34 : Int32)) ∧ Fr n0 L ∧ h = h0
theorem ef_rmL33_16_2_18 (m : MethodId) (x0 : Int32) (x1 : Int32) (x2 : Int32) : entryFrame m #[(.int x0), (.int x1), (.int x2)] 4 = mkF m 0 #[.val (.int x0), .val (.int x1), .val (.int x2), .unset] [] := by first | (simp [entryFrame, mkF, argsToLocals, Value.category]; done) | rfl
theorem pnc_jdk_internal_util_ArraysSupport : plainName "jdk/internal/util/ArraysSupport" = true := by first | (simp [plainName, overriddenIn]; done) | decide +kernel
set_option maxRecDepth 65536 in
set_option maxHeartbeats 40000000 in
theorem rmL33_16_2_18 (l : Launch) (Z : State) (a0 : Array Value) (hw : ∀ d ∈ tables_1, d.before a0 Z = true) (ws : List Jvm.Cond)  (h0 : Heap) (n0 : Nat) (Z0 : n0 ≤ h0.size) :
  MetFree l (⟨"jdk/internal/util/ArraysSupport", "newLength", "(III)I"⟩ : MethodName) (head1 (Jvm.Cond.code (⟨"jdk/internal/util/ArraysSupport", "newLength", "(III)I"⟩ : MethodName) jdk_48_method_27_code 4 (some .int) :: ws) ({ frames := 1, cells := 0, slots := 0, locals := 14 } : Room)) (fun a U => a = #[(.int (16 : Int32)), (.int (2 : Int32)), (.int (18 : Int32))] ∧ Z.Warmed39 U.vm ∧ U.heap = h0) (fun _ _ _ _ _ => True) (fun _ U o U' => ∃ v L, o = .returned v ∧ QL33_16_2_18 Z  h0 n0 v U'.heap L ∧ FrameEnd U o U' L ({ frames := 1, cells := 0, slots := 0, locals := 14 } : Room).cells ({ frames := 1, cells := 0, slots := 0, locals := 14 } : Room).slots) := by
 refine MetFree.of_bodySF (plainFor_of_name pnc_jdk_internal_util_ArraysSupport) hisR ?_
 intro p e s m args below meth c s₁ Bd hml0 hP hK
 obtain ⟨rfl, hZ, hh⟩ := hP
 have hx := Bd.exec
 have hby := Bd.bytes
 have hml : c.maxLocals = 4 := hml0
 have hown : s.vm.findClass "jdk/internal/util/ArraysSupport" = some m.cls := findClass_of_methodNamed Bd.named
 have hnm := (name_of_methodNamed Bd.named Bd.method).1
 have X0 : Stand p l e ({ frames := 1, cells := 0, slots := 0, locals := 14 } : Room) s m #[(.int (16 : Int32)), (.int (2 : Int32)), (.int (18 : Int32))] below meth c s₁ [] 0 0 := Stand.of_body Bd
 have e0 : s₁.heap = h0 := by rw [← hh, Bd.state]; rfl
 have N0 := Fr.nil n0
 have kp0 : Keep h0 h0 [] := Keep.refl _ _
 have G0 : ∀ t, Steps p.tables e below (s₁.setTop (mkF m 0 #[iv 16, iv 2, iv 18, .unset] [])) t → Steps p.tables e below (s₁.setTop (entryFrame m #[(.int (16 : Int32)), (.int (2 : Int32)), (.int (18 : Int32))] 4)) t := fun t k => castTop (ef_rmL33_16_2_18 m (16 : Int32) (2 : Int32) (18 : Int32)) k
 obtain ⟨_, _, ⟨T1, L1, k1, n1⟩, -, X1, ⟨Lc1, hQ1, l1, y1, z1⟩, st1⟩ := Jvm.LawKit.callS X0 hx (y := (⟨"java/lang/Math", "max", "(II)I"⟩ : MethodName)) hown (mvT hZ (hq hw 182 rfl)) (mvT hZ (hq hw 183 rfl)) (mvT hZ (hq hw 184 rfl)) (mvT hZ (hq hw 185 rfl)) (by decide) (backOf (W := 1) (rmL34_2_18 l Z a0 hw []   h0 n0 Z0  ) hZ (hq hw 185 rfl) (hq hw 184 rfl) (by decide) (by decide)) (g := (mkF m 3 #[iv 16, iv 2, iv 18, .unset] [(.int (18 : Int32)), (.int (2 : Int32)), (.int (16 : Int32))])) rfl (by rw [hml]; rfl) (argsL := [(.int (2 : Int32)), (.int (18 : Int32))]) (rest := [(.int (16 : Int32))]) (lenOf pd_12 rfl) rfl (by show 2 * 0 + _ ≤ _; exact Nat.le_of_eq rfl) (hb hby d33_3) (fun _ _ => ⟨rfl, e0, (by decide : 0 + 0 ≤ _), (by decide : 0 + 0 ≤ _)⟩)
 dsimp only [Pt.U, Pt.locs, Pt.cells, Pt.slots] at X1 l1 y1 z1 st1 hQ1
 subst l1 y1 z1
 obtain ⟨rfl, N1q, eh1⟩ := hQ1
 have N1 := Fr.app N0 N1q
 have G2 : ∀ t, Steps p.tables e below (T1.setTop (mkF m 10 #[iv 16, iv 2, iv 18, iv 34] [(.int (34 : Int32)), (.int (0 : Int32))])) t → Steps p.tables e below (s₁.setTop (entryFrame m #[(.int (16 : Int32)), (.int (2 : Int32)), (.int (18 : Int32))] 4)) t := by
  intro t kt
  refine G0 _ ?_
  refine XS.iloadN X0.here hx rfl (hb hby d33_0) rfl ?_
  refine XS.iloadN X0.here hx rfl (hb hby d33_1) rfl ?_
  refine XS.iloadN X0.here hx rfl (hb hby d33_2) rfl ?_
  refine st1 _ ?_
  refine XS.iadd X1.here hx rfl (hb hby d33_6) rfl ?_
  refine XS.istoreN X1.here hx rfl (hb hby d33_7) rfl (l' := #[iv 16, iv 2, iv 18, iv 34]) rfl ?_
  refine XS.iconst X1.here hx rfl (hb hby d33_8) ?_
  refine XS.iloadN X1.here hx rfl (hb hby d33_9) rfl ?_
  exact kt
 have G3 : ∀ t, Steps p.tables e below (T1.setTop (mkF m 16 #[iv 16, iv 2, iv 18, iv 34] [(.int (2147483639 : Int32)), (.int (34 : Int32))])) t → Steps p.tables e below (s₁.setTop (entryFrame m #[(.int (16 : Int32)), (.int (2 : Int32)), (.int (18 : Int32))] 4)) t := by
  intro t kt
  refine G2 _ ?_
  refine XS.icmpNo X1.here hx rfl (hb hby d33_10) rfl (tlt (by decide)).2.1 ?_
  refine XS.iloadN X1.here hx rfl (hb hby d33_13) rfl ?_
  refine X1.ldcInt hx hown (mvT hZ (hq hw 186 rfl)) (g := (mkF m 14 #[iv 16, iv 2, iv 18, iv 34] [(.int (34 : Int32))])) rfl (hb hby d33_14) _ ?_
  exact kt
 obtain ⟨fs, hr, hrun, hended, hW, hsame⟩ := X1.leave (v := some (.int (34 : Int32))) (fun h => by rw [Bd.returns] at h; cases h)
 refine ⟨_, _, G3 _ ?_, hrun, hended, _, _, rfl, ?_, ⟨_, rfl⟩, hW, hsame.mono (by decide) (by decide)⟩
 ·skip
  refine XS.icmpNo X1.here hx rfl (hb hby d33_16) rfl (flt (by decide)).2.2.1 ?_
  refine XS.iloadN X1.here hx rfl (hb hby d33_19) rfl ?_
  exact retI X1 hx Bd.returns (hb hby d33_20) hr
 ·show QL33_16_2_18 Z  h0 n0 _ T1.heap _
  rw [eh1]
  exact ⟨rfl, N1, rfl⟩
def QL33_16_3_18 (Z : State)  (h0 : Heap) (n0 : Nat) (v : Option Value) (h : Heap) (L : List Loc) : Prop := v = some (.int (34 : Int32)) ∧ Fr n0 L ∧ h = h0
theorem ef_rmL33_16_3_18 (m : MethodId) (x0 : Int32) (x1 : Int32) (x2 : Int32) : entryFrame m #[(.int x0), (.int x1), (.int x2)] 4 = mkF m 0 #[.val (.int x0), .val (.int x1), .val (.int x2), .unset] [] := by first | (simp [entryFrame, mkF, argsToLocals, Value.category]; done) | rfl
set_option maxRecDepth 65536 in
set_option maxHeartbeats 40000000 in
theorem rmL33_16_3_18 (l : Launch) (Z : State) (a0 : Array Value) (hw : ∀ d ∈ tables_1, d.before a0 Z = true) (ws : List Jvm.Cond)  (h0 : Heap) (n0 : Nat) (Z0 : n0 ≤ h0.size) :
  MetFree l (⟨"jdk/internal/util/ArraysSupport", "newLength", "(III)I"⟩ : MethodName) (head1 (Jvm.Cond.code (⟨"jdk/internal/util/ArraysSupport", "newLength", "(III)I"⟩ : MethodName) jdk_48_method_27_code 4 (some .int) :: ws) ({ frames := 1, cells := 0, slots := 0, locals := 14 } : Room)) (fun a U => a = #[(.int (16 : Int32)), (.int (3 : Int32)), (.int (18 : Int32))] ∧ Z.Warmed39 U.vm ∧ U.heap = h0) (fun _ _ _ _ _ => True) (fun _ U o U' => ∃ v L, o = .returned v ∧ QL33_16_3_18 Z  h0 n0 v U'.heap L ∧ FrameEnd U o U' L ({ frames := 1, cells := 0, slots := 0, locals := 14 } : Room).cells ({ frames := 1, cells := 0, slots := 0, locals := 14 } : Room).slots) := by
 refine MetFree.of_bodySF (plainFor_of_name pnc_jdk_internal_util_ArraysSupport) hisR ?_
 intro p e s m args below meth c s₁ Bd hml0 hP hK
 obtain ⟨rfl, hZ, hh⟩ := hP
 have hx := Bd.exec
 have hby := Bd.bytes
 have hml : c.maxLocals = 4 := hml0
 have hown : s.vm.findClass "jdk/internal/util/ArraysSupport" = some m.cls := findClass_of_methodNamed Bd.named
 have hnm := (name_of_methodNamed Bd.named Bd.method).1
 have X0 : Stand p l e ({ frames := 1, cells := 0, slots := 0, locals := 14 } : Room) s m #[(.int (16 : Int32)), (.int (3 : Int32)), (.int (18 : Int32))] below meth c s₁ [] 0 0 := Stand.of_body Bd
 have e0 : s₁.heap = h0 := by rw [← hh, Bd.state]; rfl
 have N0 := Fr.nil n0
 have kp0 : Keep h0 h0 [] := Keep.refl _ _
 have G0 : ∀ t, Steps p.tables e below (s₁.setTop (mkF m 0 #[iv 16, iv 3, iv 18, .unset] [])) t → Steps p.tables e below (s₁.setTop (entryFrame m #[(.int (16 : Int32)), (.int (3 : Int32)), (.int (18 : Int32))] 4)) t := fun t k => castTop (ef_rmL33_16_3_18 m (16 : Int32) (3 : Int32) (18 : Int32)) k
 obtain ⟨_, _, ⟨T1, L1, k1, n1⟩, -, X1, ⟨Lc1, hQ1, l1, y1, z1⟩, st1⟩ := Jvm.LawKit.callS X0 hx (y := (⟨"java/lang/Math", "max", "(II)I"⟩ : MethodName)) hown (mvT hZ (hq hw 182 rfl)) (mvT hZ (hq hw 183 rfl)) (mvT hZ (hq hw 184 rfl)) (mvT hZ (hq hw 185 rfl)) (by decide) (backOf (W := 1) (rmL34_3_18 l Z a0 hw []   h0 n0 Z0  ) hZ (hq hw 185 rfl) (hq hw 184 rfl) (by decide) (by decide)) (g := (mkF m 3 #[iv 16, iv 3, iv 18, .unset] [(.int (18 : Int32)), (.int (3 : Int32)), (.int (16 : Int32))])) rfl (by rw [hml]; rfl) (argsL := [(.int (3 : Int32)), (.int (18 : Int32))]) (rest := [(.int (16 : Int32))]) (lenOf pd_12 rfl) rfl (by show 2 * 0 + _ ≤ _; exact Nat.le_of_eq rfl) (hb hby d33_3) (fun _ _ => ⟨rfl, e0, (by decide : 0 + 0 ≤ _), (by decide : 0 + 0 ≤ _)⟩)
 dsimp only [Pt.U, Pt.locs, Pt.cells, Pt.slots] at X1 l1 y1 z1 st1 hQ1
 subst l1 y1 z1
 obtain ⟨rfl, N1q, eh1⟩ := hQ1
 have N1 := Fr.app N0 N1q
 have G2 : ∀ t, Steps p.tables e below (T1.setTop (mkF m 10 #[iv 16, iv 3, iv 18, iv 34] [(.int (34 : Int32)), (.int (0 : Int32))])) t → Steps p.tables e below (s₁.setTop (entryFrame m #[(.int (16 : Int32)), (.int (3 : Int32)), (.int (18 : Int32))] 4)) t := by
  intro t kt
  refine G0 _ ?_
  refine XS.iloadN X0.here hx rfl (hb hby d33_0) rfl ?_
  refine XS.iloadN X0.here hx rfl (hb hby d33_1) rfl ?_
  refine XS.iloadN X0.here hx rfl (hb hby d33_2) rfl ?_
  refine st1 _ ?_
  refine XS.iadd X1.here hx rfl (hb hby d33_6) rfl ?_
  refine XS.istoreN X1.here hx rfl (hb hby d33_7) rfl (l' := #[iv 16, iv 3, iv 18, iv 34]) rfl ?_
  refine XS.iconst X1.here hx rfl (hb hby d33_8) ?_
  refine XS.iloadN X1.here hx rfl (hb hby d33_9) rfl ?_
  exact kt
 have G3 : ∀ t, Steps p.tables e below (T1.setTop (mkF m 16 #[iv 16, iv 3, iv 18, iv 34] [(.int (2147483639 : Int32)), (.int (34 : Int32))])) t → Steps p.tables e below (s₁.setTop (entryFrame m #[(.int (16 : Int32)), (.int (3 : Int32)), (.int (18 : Int32))] 4)) t := by
  intro t kt
  refine G2 _ ?_
  refine XS.icmpNo X1.here hx rfl (hb hby d33_10) rfl (tlt (by decide)).2.1 ?_
  refine XS.iloadN X1.here hx rfl (hb hby d33_13) rfl ?_
  refine X1.ldcInt hx hown (mvT hZ (hq hw 186 rfl)) (g := (mkF m 14 #[iv 16, iv 3, iv 18, iv 34] [(.int (34 : Int32))])) rfl (hb hby d33_14) _ ?_
  exact kt
 obtain ⟨fs, hr, hrun, hended, hW, hsame⟩ := X1.leave (v := some (.int (34 : Int32))) (fun h => by rw [Bd.returns] at h; cases h)
 refine ⟨_, _, G3 _ ?_, hrun, hended, _, _, rfl, ?_, ⟨_, rfl⟩, hW, hsame.mono (by decide) (by decide)⟩
 ·skip
  refine XS.icmpNo X1.here hx rfl (hb hby d33_16) rfl (flt (by decide)).2.2.1 ?_
  refine XS.iloadN X1.here hx rfl (hb hby d33_19) rfl ?_
  exact retI X1 hx Bd.returns (hb hby d33_20) hr
 ·show QL33_16_3_18 Z  h0 n0 _ T1.heap _
  rw [eh1]
  exact ⟨rfl, N1, rfl⟩
theorem d51_0 : decode jdk_65_method_131_code 0 = .ok (.iload_n 1, 1) := by decide +kernel
theorem d51_1 : decode jdk_65_method_131_code 1 = .ok (.iload_n 0, 1) := by decide +kernel
theorem d51_2 : decode jdk_65_method_131_code 2 = .ok (.if_icmp .ge 35, 3) := by decide +kernel
theorem d51_37 : decode jdk_65_method_131_code 37 = .ok (.return_, 1) := by decide +kernel
def QL51_0_19 (Z : State)  (h0 : Heap) (n0 : Nat) (v : Option Value) (h : Heap) (L : List Loc) : Prop := v = none ∧ Fr n0 L ∧ h = h0
theorem ef_rmL51_0_19 (m : MethodId) (x0 : Int32) (x1 : Int32) : entryFrame m #[(.int x0), (.int x1)] 2 = mkF m 0 #[.val (.int x0), .val (.int x1)] [] := by first | (simp [entryFrame, mkF, argsToLocals, Value.category]; done) | rfl
theorem pnc_java_util_Arrays : plainName "java/util/Arrays" = true := by first | (simp [plainName, overriddenIn]; done) | decide +kernel
set_option maxRecDepth 65536 in
set_option maxHeartbeats 40000000 in
theorem rmL51_0_19 (l : Launch) (Z : State) (a0 : Array Value) (hw : ∀ d ∈ tables_1, d.before a0 Z = true) (ws : List Jvm.Cond)  (h0 : Heap) (n0 : Nat) (Z0 : n0 ≤ h0.size) :
  MetFree l (⟨"java/util/Arrays", "checkLength", "(II)V"⟩ : MethodName) (head1 (Jvm.Cond.code (⟨"java/util/Arrays", "checkLength", "(II)V"⟩ : MethodName) jdk_65_method_131_code 2 none :: ws) ({ frames := 0, cells := 0, slots := 0, locals := 0 } : Room)) (fun a U => a = #[(.int (0 : Int32)), (.int (19 : Int32))] ∧ Z.Warmed39 U.vm ∧ U.heap = h0) (fun _ _ _ _ _ => True) (fun _ U o U' => ∃ v L, o = .returned v ∧ QL51_0_19 Z  h0 n0 v U'.heap L ∧ FrameEnd U o U' L ({ frames := 0, cells := 0, slots := 0, locals := 0 } : Room).cells ({ frames := 0, cells := 0, slots := 0, locals := 0 } : Room).slots) := by
 refine MetFree.of_bodySF (plainFor_of_name pnc_java_util_Arrays) hisR ?_
 intro p e s m args below meth c s₁ Bd hml0 hP hK
 obtain ⟨rfl, hZ, hh⟩ := hP
 have hx := Bd.exec
 have hby := Bd.bytes
 have hml : c.maxLocals = 2 := hml0
 have hown : s.vm.findClass "java/util/Arrays" = some m.cls := findClass_of_methodNamed Bd.named
 have hnm := (name_of_methodNamed Bd.named Bd.method).1
 have X0 : Stand p l e ({ frames := 0, cells := 0, slots := 0, locals := 0 } : Room) s m #[(.int (0 : Int32)), (.int (19 : Int32))] below meth c s₁ [] 0 0 := Stand.of_body Bd
 have e0 : s₁.heap = h0 := by rw [← hh, Bd.state]; rfl
 have N0 := Fr.nil n0
 have kp0 : Keep h0 h0 [] := Keep.refl _ _
 have G0 : ∀ t, Steps p.tables e below (s₁.setTop (mkF m 0 #[iv 0, iv 19] [])) t → Steps p.tables e below (s₁.setTop (entryFrame m #[(.int (0 : Int32)), (.int (19 : Int32))] 2)) t := fun t k => castTop (ef_rmL51_0_19 m (0 : Int32) (19 : Int32)) k
 have G1 : ∀ t, Steps p.tables e below (s₁.setTop (mkF m 2 #[iv 0, iv 19] [(.int (0 : Int32)), (.int (19 : Int32))])) t → Steps p.tables e below (s₁.setTop (entryFrame m #[(.int (0 : Int32)), (.int (19 : Int32))] 2)) t := by
  intro t kt
  refine G0 _ ?_
  refine XS.iloadN X0.here hx rfl (hb hby d51_0) rfl ?_
  refine XS.iloadN X0.here hx rfl (hb hby d51_1) rfl ?_
  exact kt
 obtain ⟨fs, hr, hrun, hended, hW, hsame⟩ := X0.leave (v := none) (fun _ => rfl)
 refine ⟨_, _, G1 _ ?_, hrun, hended, _, _, rfl, ?_, ⟨_, rfl⟩, hW, hsame.mono (by decide) (by decide)⟩
 ·skip
  refine XS.icmpYes X0.here hx rfl (pc0 := 2) (pc' := 37) rfl (hb hby d51_2) rfl (flt (by decide)).2.1 (by decide) (by decide) ?_
  exact X0.returnOut hx Bd.returns (hb hby d51_37) hr
 ·show QL51_0_19 Z  h0 n0 _ s₁.heap _
  rw [e0]
  exact ⟨rfl, N0, rfl⟩
def QL51_0_20 (Z : State)  (h0 : Heap) (n0 : Nat) (v : Option Value) (h : Heap) (L : List Loc) : Prop := v = none ∧ Fr n0 L ∧ h = h0
theorem ef_rmL51_0_20 (m : MethodId) (x0 : Int32) (x1 : Int32) : entryFrame m #[(.int x0), (.int x1)] 2 = mkF m 0 #[.val (.int x0), .val (.int x1)] [] := by first | (simp [entryFrame, mkF, argsToLocals, Value.category]; done) | rfl
set_option maxRecDepth 65536 in
set_option maxHeartbeats 40000000 in
theorem rmL51_0_20 (l : Launch) (Z : State) (a0 : Array Value) (hw : ∀ d ∈ tables_1, d.before a0 Z = true) (ws : List Jvm.Cond)  (h0 : Heap) (n0 : Nat) (Z0 : n0 ≤ h0.size) :
  MetFree l (⟨"java/util/Arrays", "checkLength", "(II)V"⟩ : MethodName) (head1 (Jvm.Cond.code (⟨"java/util/Arrays", "checkLength", "(II)V"⟩ : MethodName) jdk_65_method_131_code 2 none :: ws) ({ frames := 0, cells := 0, slots := 0, locals := 0 } : Room)) (fun a U => a = #[(.int (0 : Int32)), (.int (20 : Int32))] ∧ Z.Warmed39 U.vm ∧ U.heap = h0) (fun _ _ _ _ _ => True) (fun _ U o U' => ∃ v L, o = .returned v ∧ QL51_0_20 Z  h0 n0 v U'.heap L ∧ FrameEnd U o U' L ({ frames := 0, cells := 0, slots := 0, locals := 0 } : Room).cells ({ frames := 0, cells := 0, slots := 0, locals := 0 } : Room).slots) := by
 refine MetFree.of_bodySF (plainFor_of_name pnc_java_util_Arrays) hisR ?_
 intro p e s m args below meth c s₁ Bd hml0 hP hK
 obtain ⟨rfl, hZ, hh⟩ := hP
 have hx := Bd.exec
 have hby := Bd.bytes
 have hml : c.maxLocals = 2 := hml0
 have hown : s.vm.findClass "java/util/Arrays" = some m.cls := findClass_of_methodNamed Bd.named
 have hnm := (name_of_methodNamed Bd.named Bd.method).1
 have X0 : Stand p l e ({ frames := 0, cells := 0, slots := 0, locals := 0 } : Room) s m #[(.int (0 : Int32)), (.int (20 : Int32))] below meth c s₁ [] 0 0 := Stand.of_body Bd
 have e0 : s₁.heap = h0 := by rw [← hh, Bd.state]; rfl
 have N0 := Fr.nil n0
 have kp0 : Keep h0 h0 [] := Keep.refl _ _
 have G0 : ∀ t, Steps p.tables e below (s₁.setTop (mkF m 0 #[iv 0, iv 20] [])) t → Steps p.tables e below (s₁.setTop (entryFrame m #[(.int (0 : Int32)), (.int (20 : Int32))] 2)) t := fun t k => castTop (ef_rmL51_0_20 m (0 : Int32) (20 : Int32)) k
 have G1 : ∀ t, Steps p.tables e below (s₁.setTop (mkF m 2 #[iv 0, iv 20] [(.int (0 : Int32)), (.int (20 : Int32))])) t → Steps p.tables e below (s₁.setTop (entryFrame m #[(.int (0 : Int32)), (.int (20 : Int32))] 2)) t := by
  intro t kt
  refine G0 _ ?_
  refine XS.iloadN X0.here hx rfl (hb hby d51_0) rfl ?_
  refine XS.iloadN X0.here hx rfl (hb hby d51_1) rfl ?_
  exact kt
 obtain ⟨fs, hr, hrun, hended, hW, hsame⟩ := X0.leave (v := none) (fun _ => rfl)
 refine ⟨_, _, G1 _ ?_, hrun, hended, _, _, rfl, ?_, ⟨_, rfl⟩, hW, hsame.mono (by decide) (by decide)⟩
 ·skip
  refine XS.icmpYes X0.here hx rfl (pc0 := 2) (pc' := 37) rfl (hb hby d51_2) rfl (flt (by decide)).2.1 (by decide) (by decide) ?_
  exact X0.returnOut hx Bd.returns (hb hby d51_37) hr
 ·show QL51_0_20 Z  h0 n0 _ s₁.heap _
  rw [e0]
  exact ⟨rfl, N0, rfl⟩
theorem d28_0 : decode jdk_68_method_2_code 0 = .ok (.aload_n 0, 1) := by decide +kernel
theorem d28_1 : decode jdk_68_method_2_code 1 = .ok (.invokespecial 3, 3) := by decide +kernel
theorem d28_4 : decode jdk_68_method_2_code 4 = .ok (.getstatic 18, 3) := by decide +kernel
theorem d28_7 : decode jdk_68_method_2_code 7 = .ok (.ifCond .eq 18, 3) := by decide +kernel
theorem d28_10 : decode jdk_68_method_2_code 10 = .ok (.aload_n 0, 1) := by decide +kernel
theorem d28_11 : decode jdk_68_method_2_code 11 = .ok (.iload_n 1, 1) := by decide +kernel
theorem d28_12 : decode jdk_68_method_2_code 12 = .ok (.newarray .byte, 2) := by decide +kernel
theorem d28_14 : decode jdk_68_method_2_code 14 = .ok (.putfield 15, 3) := by decide +kernel
theorem d28_17 : decode jdk_68_method_2_code 17 = .ok (.aload_n 0, 1) := by decide +kernel
theorem d28_18 : decode jdk_68_method_2_code 18 = .ok (.iconst 0, 1) := by decide +kernel
theorem d28_19 : decode jdk_68_method_2_code 19 = .ok (.putfield 22, 3) := by decide +kernel
theorem d28_22 : decode jdk_68_method_2_code 22 = .ok (.goto 16, 3) := by decide +kernel
theorem d28_38 : decode jdk_68_method_2_code 38 = .ok (.return_, 1) := by decide +kernel
def Q28 (Z : State) (r0 : Addr) (cst : Int32) (fv : Value) (h0 : Heap) (n0 : Nat) (v : Option Value) (h : Heap) (L : List Loc) : Prop := v = none ∧ Fr n0 L ∧ Keep h0 h [r0] ∧ Fld Z h r0 "java/lang/AbstractStringBuilder" "count" "I" (.int (0 : Int32)) ∧ Fld Z h r0 "java/lang/AbstractStringBuilder" "coder" "B" (.int (0 : Int32)) ∧ ∃ (t : Addr) (k : ClassId), Fld Z h r0 "java/lang/AbstractStringBuilder" "value" "[B" (.ref t) ∧ h0.size ≤ t ∧ n0 ≤ t ∧ Arv Z h t k .byte (16 : Int32) own_z16 (.int (0 : Int32))
theorem ef_rm28 (m : MethodId) (x0 : Addr) (x1 : Int32) : entryFrame m #[(.ref x0), (.int x1)] 2 = mkF m 0 #[.val (.ref x0), .val (.int x1)] [] := by first | (simp [entryFrame, mkF, argsToLocals, Value.category]; done) | rfl
theorem pnc_java_lang_AbstractStringBuilder : plainName "java/lang/AbstractStringBuilder" = true := by first | (simp [plainName, overriddenIn]; done) | decide +kernel
set_option maxRecDepth 65536 in
set_option maxHeartbeats 40000000 in
theorem rm28 (l : Launch) (Z : State) (a0 : Array Value) (hw : ∀ d ∈ tables_1, d.before a0 Z = true) (ws : List Jvm.Cond) (r0 : Addr) (cst : Int32) (fv : Value) (h0 : Heap) (n0 : Nat) (Z0 : n0 ≤ h0.size) (E0 : Exa Z h0 r0 "java/lang/StringBuilder") (Fn : Fld Z h0 r0 "java/lang/AbstractStringBuilder" "count" "I" (.int (0 : Int32))) (Fc : Fld Z h0 r0 "java/lang/AbstractStringBuilder" "coder" "B" (.int (0 : Int32))) (Fv : Fld Z h0 r0 "java/lang/AbstractStringBuilder" "value" "[B" .null) (O0 : Old Z n0 h0) (g_r0 : n0 ≤ r0) (SS : Sts Z cst fv) :
  MetFree l (⟨"java/lang/AbstractStringBuilder", "<init>", "(I)V"⟩ : MethodName) (head1 (Jvm.Cond.code (⟨"java/lang/AbstractStringBuilder", "<init>", "(I)V"⟩ : MethodName) jdk_68_method_2_code 2 none :: ws) ({ frames := 1, cells := 1, slots := 16, locals := 12 } : Room)) (fun a U => a = #[(.ref r0), (.int (16 : Int32))] ∧ Z.Warmed39 U.vm ∧ U.heap = h0) (fun _ _ _ _ _ => True) (fun _ U o U' => ∃ v L, o = .returned v ∧ Q28 Z r0 cst fv h0 n0 v U'.heap L ∧ FrameEnd U o U' L ({ frames := 1, cells := 1, slots := 16, locals := 12 } : Room).cells ({ frames := 1, cells := 1, slots := 16, locals := 12 } : Room).slots) := by
 refine MetFree.of_bodySF (plainFor_of_name pnc_java_lang_AbstractStringBuilder) hisR ?_
 intro p e s m args below meth c s₁ Bd hml0 hP hK
 obtain ⟨rfl, hZ, hh⟩ := hP
 have hx := Bd.exec
 have hby := Bd.bytes
 have hml : c.maxLocals = 2 := hml0
 have hown : s.vm.findClass "java/lang/AbstractStringBuilder" = some m.cls := findClass_of_methodNamed Bd.named
 have hnm := (name_of_methodNamed Bd.named Bd.method).1
 have X0 : Stand p l e ({ frames := 1, cells := 1, slots := 16, locals := 12 } : Room) s m #[(.ref r0), (.int (16 : Int32))] below meth c s₁ [] 0 0 := Stand.of_body Bd
 have e0 : s₁.heap = h0 := by rw [← hh, Bd.state]; rfl
 have N0 := Fr.nil n0
 have kp0 : Keep h0 h0 [r0] := Keep.refl _ _
 have G0 : ∀ t, Steps p.tables e below (s₁.setTop (mkF m 0 #[rv r0, iv 16] [])) t → Steps p.tables e below (s₁.setTop (entryFrame m #[(.ref r0), (.int (16 : Int32))] 2)) t := fun t k => castTop (ef_rm28 m r0 (16 : Int32)) k
 obtain ⟨T1, X1, e1, st1⟩ := initO X0 hx hZ hown (hq hw 147 rfl) (hq hw 25 rfl) (hq hw 26 rfl) e0 (g := (mkF m 1 #[rv r0, iv 16] [(.ref r0)])) rfl (by rw [hml]; rfl) rfl (hb hby d28_1) (by decide) (W := 0) (by show 2 * 0 + _ ≤ _; exact Nat.le_of_eq rfl) (by decide)
 obtain ⟨T2, X2, e2, st2⟩ := getS2 X1 hx hZ hown (host := "") (Or.inl (hq hw 148 rfl)) Via.refl e1 (SS.1.ext O0.2) (g := (mkF m 4 #[rv r0, iv 16] [])) rfl (hb hby d28_4)
 have G3 : ∀ t, Steps p.tables e below (T2.setTop (mkF m 7 #[rv r0, iv 16] [(.int cst)])) t → Steps p.tables e below (s₁.setTop (entryFrame m #[(.ref r0), (.int (16 : Int32))] 2)) t := by
  intro t kt
  refine G0 _ ?_
  refine XS.aloadN X0.here hx rfl (hb hby d28_0) rfl rfl ?_
  refine st1 _ ?_
  refine st2 _ ?_
  exact kt
 have hc7_4 : ¬ (cst = (0 : Int32)) := SS.2.1
 obtain ⟨T5, h5, k5, X5, e5, E5, A5, st5⟩ := newP X2 hx hZ (hq hw 8 rfl) e2 (g := (mkF m 12 #[rv r0, iv 16] [(.int (16 : Int32)), (.ref r0)])) rfl (hb hby d28_12) rfl (by decide) (cap := 16) (by decide) (by decide) (by decide) (by decide)
 obtain ⟨b5, g5⟩ : ∃ z, z = h0.size := ⟨_, rfl⟩
 rw [← g5] at A5 st5
 have g_b5 : n0 ≤ b5 := Nat.le_trans Z0 (Nat.le_of_eq g5.symm)
 have sz_b5 : h0.size ≤ b5 := Nat.le_trans kp0.1 (Nat.le_of_eq g5.symm)
 have ne_r0_b5 : r0 ≠ b5 := Nat.ne_of_lt (Nat.lt_of_lt_of_le E0.lt (Nat.le_of_eq g5.symm))
 have fa6 := E0.ext E5
 have fa7 := Fn.ext E5
 have fa8 := Fc.ext E5
 have fa9 := Fv.ext E5
 have fa10 := O0.ext E5
 have z11 : n0 ≤ h5.size := Nat.le_trans Z0 E5.1
 have kp12 : Keep h0 h5 [r0] := kp0.ext E5
 have fa13 : Arv Z h5 b5 k5 .byte (16 : Int32) [(.int (0 : Int32)), (.int (0 : Int32)), (.int (0 : Int32)), (.int (0 : Int32)), (.int (0 : Int32)), (.int (0 : Int32)), (.int (0 : Int32)), (.int (0 : Int32)), (.int (0 : Int32)), (.int (0 : Int32)), (.int (0 : Int32)), (.int (0 : Int32)), (.int (0 : Int32)), (.int (0 : Int32)), (.int (0 : Int32)), (.int (0 : Int32))] (.int (0 : Int32)) := (Arv.new A5 (by decide)).pad (pad_rep [] (.int (0 : Int32)) 16)
 obtain ⟨T14, h14, X14, e14, W14, st14⟩ := putF X5 hx hZ hown (host := "") (Or.inl (hq hw 149 rfl)) Via.refl e5 fa9 fa6 (Or.inl (hq hw 150 rfl)) (hq hw 135 rfl) (ty := (.array .byte)) (by decide) rfl rfl (g := (mkF m 14 #[rv r0, iv 16] [(.ref b5), (.ref r0)])) rfl rfl (hb hby d28_14)
 have fa15 := fa6.wr W14
 have fa16 := fa7.other W14 (Or.inr (slot_ne (Or.inl (hq hw 167 rfl)) (Or.inl (hq hw 150 rfl)) (by decide) (t := .int) (t' := (.array .byte)) (by decide) (by decide)))
 have fa17 := fa8.other W14 (Or.inr (slot_ne (Or.inl (hq hw 152 rfl)) (Or.inl (hq hw 150 rfl)) (by decide) (t := .byte) (t' := (.array .byte)) (by decide) (by decide)))
 have fa18 : Fld Z h14 r0 "java/lang/AbstractStringBuilder" "value" "[B" (.ref b5) := fa9.same W14
 have fa19 := fa10.wr W14 g_r0
 have fa20 := fa13.other W14 (Ne.symm ne_r0_b5)
 have z21 : n0 ≤ h14.size := Nat.le_trans z11 (Nat.le_of_eq W14.size.symm)
 have kp22 : Keep h0 h14 [r0] := kp12.wr W14 (Or.inl (List.mem_of_getElem? (i := 0) rfl))
 have N14 := Fr.snoc X14 N0 g_r0
 obtain ⟨T23, h23, X23, e23, W23, st23⟩ := putFN X14 hx hZ hown (hq hw 151 rfl) Via.refl e14 fa17 fa15 (Or.inl (hq hw 152 rfl)) (hq hw 135 rfl) (ty := .byte) (v' := (.int (0 : Int32))) (by decide) rfl (fits_nar_byte (0 : Int32)) (g := (mkF m 19 #[rv r0, iv 16] [(.int (0 : Int32)), (.ref r0)])) rfl rfl (hb hby d28_19)
 have fa24 := fa15.wr W23
 have fa25 := fa16.other W23 (Or.inr (slot_ne (Or.inl (hq hw 167 rfl)) (Or.inl (hq hw 152 rfl)) (by decide) (t := .int) (t' := .byte) (by decide) (by decide)))
 have fa26 : Fld Z h23 r0 "java/lang/AbstractStringBuilder" "coder" "B" (.int (0 : Int32)) := fa17.same W23
 have fa27 := fa18.other W23 (Or.inr (slot_ne (Or.inl (hq hw 150 rfl)) (Or.inl (hq hw 152 rfl)) (by decide) (t := (.array .byte)) (t' := .byte) (by decide) (by decide)))
 have fa28 := fa19.wr W23 g_r0
 have fa29 := fa20.other W23 (Ne.symm ne_r0_b5)
 have z30 : n0 ≤ h23.size := Nat.le_trans z21 (Nat.le_of_eq W23.size.symm)
 have kp31 : Keep h0 h23 [r0] := kp22.wr W23 (Or.inl (List.mem_of_getElem? (i := 0) rfl))
 have N23 := Fr.snoc X23 N14 g_r0
 obtain ⟨fs, hr, hrun, hended, hW, hsame⟩ := X23.leave (v := none) (fun _ => rfl)
 refine ⟨_, _, G3 _ ?_, hrun, hended, _, _, rfl, ?_, ⟨_, rfl⟩, hW, hsame.mono (by decide) (by decide)⟩
 ·skip
  refine XS.ifNo X2.here hx rfl (hb hby d28_7) rfl ((if0 _ _).trans (feq hc7_4).1) ?_
  refine XS.aloadN X2.here hx rfl (hb hby d28_10) rfl rfl ?_
  refine XS.iloadN X2.here hx rfl (hb hby d28_11) rfl ?_
  refine st5 _ ?_
  refine st14 _ ?_
  refine XS.aloadN X14.here hx rfl (hb hby d28_17) rfl rfl ?_
  refine XS.iconst X14.here hx rfl (hb hby d28_18) ?_
  refine st23 _ ?_
  refine XS.goto X23.here hx rfl (pc0 := 22) (pc' := 38) rfl (hb hby d28_22) (by decide) (by decide) ?_
  exact X23.returnOut hx Bd.returns (hb hby d28_38) hr
 ·show Q28 Z r0 cst fv h0 n0 _ T23.heap _
  rw [e23]
  exact ⟨rfl, N23, kp31, fa25, fa26, b5, k5, fa27, sz_b5, g_b5, fa29⟩
theorem d27_0 : decode jdk_67_method_1_code 0 = .ok (.aload_n 0, 1) := by decide +kernel
theorem d27_1 : decode jdk_67_method_1_code 1 = .ok (.bipush 16, 2) := by decide +kernel
theorem d27_3 : decode jdk_67_method_1_code 3 = .ok (.invokespecial 1, 3) := by decide +kernel
theorem pd_13 : parseMethodDescriptor "(I)V" = some ⟨[.int], none⟩ := by decide +kernel
theorem d27_6 : decode jdk_67_method_1_code 6 = .ok (.return_, 1) := by decide +kernel
def Q27 (Z : State) (r0 : Addr) (cst : Int32) (fv : Value) (h0 : Heap) (n0 : Nat) (v : Option Value) (h : Heap) (L : List Loc) : Prop := v = none ∧ Fr n0 L ∧ Keep h0 h [r0] ∧ Fld Z h r0 "java/lang/AbstractStringBuilder" "count" "I" (.int (0 : Int32)) ∧ Fld Z h r0 "java/lang/AbstractStringBuilder" "coder" "B" (.int (0 : Int32)) ∧ ∃ (t : Addr) (k : ClassId), Fld Z h r0 "java/lang/AbstractStringBuilder" "value" "[B" (.ref t) ∧ h0.size ≤ t ∧ n0 ≤ t ∧ Arv Z h t k .byte (16 : Int32) own_z16 (.int (0 : Int32))
theorem ef_rm27 (m : MethodId) (x0 : Addr) : entryFrame m #[(.ref x0)] 1 = mkF m 0 #[.val (.ref x0)] [] := by first | (simp [entryFrame, mkF, argsToLocals, Value.category]; done) | rfl
theorem pnc_java_lang_StringBuilder : plainName "java/lang/StringBuilder" = true := by first | (simp [plainName, overriddenIn]; done) | decide +kernel
set_option maxRecDepth 65536 in
set_option maxHeartbeats 40000000 in
theorem rm27 (l : Launch) (Z : State) (a0 : Array Value) (hw : ∀ d ∈ tables_1, d.before a0 Z = true) (ws : List Jvm.Cond) (r0 : Addr) (cst : Int32) (fv : Value) (h0 : Heap) (n0 : Nat) (Z0 : n0 ≤ h0.size) (E0 : Exa Z h0 r0 "java/lang/StringBuilder") (Fn : Fld Z h0 r0 "java/lang/AbstractStringBuilder" "count" "I" (.int (0 : Int32))) (Fc : Fld Z h0 r0 "java/lang/AbstractStringBuilder" "coder" "B" (.int (0 : Int32))) (Fv : Fld Z h0 r0 "java/lang/AbstractStringBuilder" "value" "[B" .null) (O0 : Old Z n0 h0) (g_r0 : n0 ≤ r0) (SS : Sts Z cst fv) :
  MetFree l (⟨"java/lang/StringBuilder", "<init>", "()V"⟩ : MethodName) (head1 (Jvm.Cond.code (⟨"java/lang/StringBuilder", "<init>", "()V"⟩ : MethodName) jdk_67_method_1_code 1 none :: ws) ({ frames := 2, cells := 1, slots := 16, locals := 25 } : Room)) (fun a U => a = #[(.ref r0)] ∧ Z.Warmed39 U.vm ∧ U.heap = h0) (fun _ _ _ _ _ => True) (fun _ U o U' => ∃ v L, o = .returned v ∧ Q27 Z r0 cst fv h0 n0 v U'.heap L ∧ FrameEnd U o U' L ({ frames := 2, cells := 1, slots := 16, locals := 25 } : Room).cells ({ frames := 2, cells := 1, slots := 16, locals := 25 } : Room).slots) := by
 refine MetFree.of_bodySF (plainFor_of_name pnc_java_lang_StringBuilder) hisR ?_
 intro p e s m args below meth c s₁ Bd hml0 hP hK
 obtain ⟨rfl, hZ, hh⟩ := hP
 have hx := Bd.exec
 have hby := Bd.bytes
 have hml : c.maxLocals = 1 := hml0
 have hown : s.vm.findClass "java/lang/StringBuilder" = some m.cls := findClass_of_methodNamed Bd.named
 have hnm := (name_of_methodNamed Bd.named Bd.method).1
 have X0 : Stand p l e ({ frames := 2, cells := 1, slots := 16, locals := 25 } : Room) s m #[(.ref r0)] below meth c s₁ [] 0 0 := Stand.of_body Bd
 have e0 : s₁.heap = h0 := by rw [← hh, Bd.state]; rfl
 have N0 := Fr.nil n0
 have kp0 : Keep h0 h0 [r0] := Keep.refl _ _
 have G0 : ∀ t, Steps p.tables e below (s₁.setTop (mkF m 0 #[rv r0] [])) t → Steps p.tables e below (s₁.setTop (entryFrame m #[(.ref r0)] 1)) t := fun t k => castTop (ef_rm27 m r0) k
 obtain ⟨_, _, ⟨T1, L1, k1, n1⟩, -, X1, ⟨Lc1, hQ1, l1, y1, z1⟩, st1⟩ := X0.specialBack hx (y := (⟨"java/lang/AbstractStringBuilder", "<init>", "(I)V"⟩ : MethodName)) rfl hown (mvT hZ (hq hw 141 rfl)) (mvT hZ (hq hw 142 rfl)) (mvT hZ (hq hw 146 rfl)) (by decide) (backOf (W := 0) (rm28 l Z a0 hw [] r0  cst fv h0 n0 Z0 E0 Fn Fc Fv O0 g_r0 SS) hZ (hq hw 146 rfl) (hq hw 145 rfl) (by decide) (by decide)) (g := (mkF m 3 #[rv r0] [(.int (16 : Int32)), (.ref r0)])) rfl (by rw [hml]; rfl) (Steps.refl _) (a := r0) (argsL := [(.int (16 : Int32))]) (rest := []) (lenOf pd_13 rfl) rfl (by show 2 * 0 + _ ≤ _; exact Nat.le_of_eq rfl) (hb hby d27_3) (fun _ _ => ⟨rfl, e0, (by decide : 0 + 1 ≤ _), (by decide : 0 + 16 ≤ _)⟩)
 dsimp only [Pt.U, Pt.locs, Pt.cells, Pt.slots] at X1 l1 y1 z1 st1 hQ1
 subst l1 y1 z1
 obtain ⟨rfl, N1q, K1, Fn1, Fc1, tb1, kb1, Fv1, sz1, g_tb1, V1⟩ := hQ1
 have N1 := Fr.app N0 N1q
 have szk1 : h0.size ≤ tb1 := Nat.le_trans kp0.1 sz1
 have ne_r0_tb1 : r0 ≠ tb1 := Nat.ne_of_lt (Nat.lt_of_lt_of_le E0.lt sz1)
 have fa2 := E0.keep K1
 have fa3 := O0.keep K1 (allS g_r0 all0)
 have z4 : n0 ≤ T1.heap.size := Nat.le_trans Z0 K1.1
 have kp5 : Keep h0 T1.heap [r0] := kp0.trans K1 (allS (Or.inl (List.mem_of_getElem? (i := 0) rfl)) all0)
 obtain ⟨fs, hr, hrun, hended, hW, hsame⟩ := X1.leave (v := none) (fun _ => rfl)
 refine ⟨_, _, G0 _ ?_, hrun, hended, _, _, rfl, ?_, ⟨_, rfl⟩, hW, hsame.mono (by decide) (by decide)⟩
 ·skip
  refine XS.aloadN X0.here hx rfl (hb hby d27_0) rfl rfl ?_
  refine XS.bipush X0.here hx rfl (hb hby d27_1) ?_
  refine st1.trans ?_
  exact X1.returnOut hx Bd.returns (hb hby d27_6) hr
 ·show Q27 Z r0 cst fv h0 n0 _ T1.heap _
  exact ⟨rfl, N1, kp5, Fn1, Fc1, tb1, kb1, Fv1, szk1, g_tb1, V1⟩
theorem own_len (m : Int32) : (m >>> ((fcoder (0 : Int32)) &&& 31)) = m := by
  rw [show fcoder (0 : Int32) = 0 from by decide]
  exact own_sh0 m
theorem d35_0 : decode jdk_65_method_121_code 0 = .ok (.iload_n 1, 1) := by decide +kernel
theorem d35_1 : decode jdk_65_method_121_code 1 = .ok (.aload_n 0, 1) := by decide +kernel
theorem d35_2 : decode jdk_65_method_121_code 2 = .ok (.arraylength, 1) := by decide +kernel
theorem d35_3 : decode jdk_65_method_121_code 3 = .ok (.if_icmp .ne 11, 3) := by decide +kernel
theorem d35_14 : decode jdk_65_method_121_code 14 = .ok (.iload_n 1, 1) := by decide +kernel
theorem d35_15 : decode jdk_65_method_121_code 15 = .ok (.newarray .byte, 2) := by decide +kernel
theorem d35_17 : decode jdk_65_method_121_code 17 = .ok (.astore_n 2, 1) := by decide +kernel
theorem d35_18 : decode jdk_65_method_121_code 18 = .ok (.aload_n 0, 1) := by decide +kernel
theorem d35_19 : decode jdk_65_method_121_code 19 = .ok (.iconst 0, 1) := by decide +kernel
theorem d35_20 : decode jdk_65_method_121_code 20 = .ok (.aload_n 2, 1) := by decide +kernel
theorem d35_21 : decode jdk_65_method_121_code 21 = .ok (.iconst 0, 1) := by decide +kernel
theorem d35_22 : decode jdk_65_method_121_code 22 = .ok (.aload_n 0, 1) := by decide +kernel
theorem d35_23 : decode jdk_65_method_121_code 23 = .ok (.arraylength, 1) := by decide +kernel
theorem d35_24 : decode jdk_65_method_121_code 24 = .ok (.iload_n 1, 1) := by decide +kernel
theorem d35_25 : decode jdk_65_method_121_code 25 = .ok (.invokestatic 304, 3) := by decide +kernel
theorem d35_28 : decode jdk_65_method_121_code 28 = .ok (.invokestatic 150, 3) := by decide +kernel
theorem d35_31 : decode jdk_65_method_121_code 31 = .ok (.aload_n 2, 1) := by decide +kernel
theorem d35_32 : decode jdk_65_method_121_code 32 = .ok (.areturn, 1) := by decide +kernel
def Q35 (Z : State) (r0 : Addr) (kd : ClassId) (vd : List Value) (h0 : Heap) (n0 : Nat) (v : Option Value) (h : Heap) (L : List Loc) : Prop := ∃ (b : Addr) (k : ClassId), v = some (.ref b) ∧ Fr n0 L ∧ Keep h0 h [] ∧ n0 ≤ b ∧ h0.size ≤ b ∧ Arv Z h b k .byte (34 : Int32) (own_cp own_z34 vd (0 : Int32) (16 : Int32)) (.int (0 : Int32))
theorem ef_rm35 (m : MethodId) (x0 : Addr) (x1 : Int32) : entryFrame m #[(.ref x0), (.int x1)] 3 = mkF m 0 #[.val (.ref x0), .val (.int x1), .unset] [] := by first | (simp [entryFrame, mkF, argsToLocals, Value.category]; done) | rfl
set_option maxRecDepth 65536 in
set_option maxHeartbeats 40000000 in
theorem rm35 (l : Launch) (Z : State) (a0 : Array Value) (hw : ∀ d ∈ tables_1, d.before a0 Z = true) (ws : List Jvm.Cond) (r0 : Addr) (kd : ClassId) (vd : List Value) (h0 : Heap) (n0 : Nat) (Z0 : n0 ≤ h0.size) (Vd : Arv Z h0 r0 kd .byte (16 : Int32) vd (.int (0 : Int32))) :
  MetFree l (⟨"java/util/Arrays", "copyOf", "([BI)[B"⟩ : MethodName) (head1 (Jvm.Cond.code (⟨"java/util/Arrays", "copyOf", "([BI)[B"⟩ : MethodName) jdk_65_method_121_code 3 (some (.array .byte)) :: ws) ({ frames := 1, cells := 1, slots := 34, locals := 18 } : Room)) (fun a U => a = #[(.ref r0), (.int (34 : Int32))] ∧ Z.Warmed39 U.vm ∧ U.heap = h0) (fun _ _ _ _ _ => True) (fun _ U o U' => ∃ v L, o = .returned v ∧ Q35 Z r0 kd vd h0 n0 v U'.heap L ∧ FrameEnd U o U' L ({ frames := 1, cells := 1, slots := 34, locals := 18 } : Room).cells ({ frames := 1, cells := 1, slots := 34, locals := 18 } : Room).slots) := by
 refine MetFree.of_bodySF (plainFor_of_name pnc_java_util_Arrays) hisR ?_
 intro p e s m args below meth c s₁ Bd hml0 hP hK
 obtain ⟨rfl, hZ, hh⟩ := hP
 have hx := Bd.exec
 have hby := Bd.bytes
 have hml : c.maxLocals = 3 := hml0
 have hown : s.vm.findClass "java/util/Arrays" = some m.cls := findClass_of_methodNamed Bd.named
 have hnm := (name_of_methodNamed Bd.named Bd.method).1
 have X0 : Stand p l e ({ frames := 1, cells := 1, slots := 34, locals := 18 } : Room) s m #[(.ref r0), (.int (34 : Int32))] below meth c s₁ [] 0 0 := Stand.of_body Bd
 have e0 : s₁.heap = h0 := by rw [← hh, Bd.state]; rfl
 have N0 := Fr.nil n0
 have kp0 : Keep h0 h0 [] := Keep.refl _ _
 have G0 : ∀ t, Steps p.tables e below (s₁.setTop (mkF m 0 #[rv r0, iv 34, .unset] [])) t → Steps p.tables e below (s₁.setTop (entryFrame m #[(.ref r0), (.int (34 : Int32))] 3)) t := fun t k => castTop (ef_rm35 m r0 (34 : Int32)) k
 obtain ⟨cl1, Ar1, q1, S1, M1, H1, G1⟩ := id Vd
 have G2 : ∀ t, Steps p.tables e below (s₁.setTop (mkF m 3 #[rv r0, iv 34, .unset] [(.int (16 : Int32)), (.int (34 : Int32))])) t → Steps p.tables e below (s₁.setTop (entryFrame m #[(.ref r0), (.int (34 : Int32))] 3)) t := by
  intro t kt
  refine G0 _ ?_
  refine XS.iloadN X0.here hx rfl (hb hby d35_0) rfl ?_
  refine XS.aloadN X0.here hx rfl (hb hby d35_1) rfl rfl ?_
  refine X0.arraylength hx (by rw [e0]; exact Ar1.1) (State.isArrayOf_alike hZ.alike Ar1.2.1) (g := (mkF m 2 #[rv r0, iv 34, .unset] [(.ref r0), (.int (34 : Int32))])) rfl rfl (hb hby d35_2) _ ?_
  rw [len_of S1 M1]
  exact kt
 obtain ⟨T3, h3, k3, X3, e3, E3, A3, st3⟩ := newP X0 hx hZ (hq hw 8 rfl) e0 (g := (mkF m 15 #[rv r0, iv 34, .unset] [(.int (34 : Int32))])) rfl (hb hby d35_15) rfl (by decide) (cap := 34) (by decide) (by decide) (by decide) (by decide)
 obtain ⟨b3, g3⟩ : ∃ z, z = h0.size := ⟨_, rfl⟩
 rw [← g3] at A3 st3
 have g_b3 : n0 ≤ b3 := Nat.le_trans Z0 (Nat.le_of_eq g3.symm)
 have sz_b3 : h0.size ≤ b3 := Nat.le_trans kp0.1 (Nat.le_of_eq g3.symm)
 have ne_r0_b3 : r0 ≠ b3 := Nat.ne_of_lt (Nat.lt_of_lt_of_le Vd.lt (Nat.le_of_eq g3.symm))
 have fa4 := Vd.ext E3
 have z5 : n0 ≤ h3.size := Nat.le_trans Z0 E3.1
 have kp6 : Keep h0 h3 [] := kp0.ext E3
 have fa7 : Arv Z h3 b3 k3 .byte (34 : Int32) [(.int (0 : Int32)), (.int (0 : Int32)), (.int (0 : Int32)), (.int (0 : Int32)), (.int (0 : Int32)), (.int (0 : Int32)), (.int (0 : Int32)), (.int (0 : Int32)), (.int (0 : Int32)), (.int (0 : Int32)), (.int (0 : Int32)), (.int (0 : Int32)), (.int (0 : Int32)), (.int (0 : Int32)), (.int (0 : Int32)), (.int (0 : Int32)), (.int (0 : Int32)), (.int (0 : Int32)), (.int (0 : Int32)), (.int (0 : Int32)), (.int (0 : Int32)), (.int (0 : Int32)), (.int (0 : Int32)), (.int (0 : Int32)), (.int (0 : Int32)), (.int (0 : Int32)), (.int (0 : Int32)), (.int (0 : Int32)), (.int (0 : Int32)), (.int (0 : Int32)), (.int (0 : Int32)), (.int (0 : Int32)), (.int (0 : Int32)), (.int (0 : Int32))] (.int (0 : Int32)) := (Arv.new A3 (by decide)).pad (pad_rep [] (.int (0 : Int32)) 34)
 obtain ⟨cl8, Ar8, q8, S8, M8, H8, G8⟩ := id fa4
 obtain ⟨_, _, ⟨T9, L9, k9, n9⟩, -, X9, ⟨Lc9, hQ9, l9, y9, z9⟩, st9⟩ := Jvm.LawKit.callS X3 hx (y := (⟨"java/lang/Math", "min", "(II)I"⟩ : MethodName)) hown (mvT hZ (hq hw 192 rfl)) (mvT hZ (hq hw 193 rfl)) (mvT hZ (hq hw 184 rfl)) (mvT hZ (hq hw 194 rfl)) (by decide) (backOf (W := 4) (rmL36_16_34 l Z a0 hw []   h3 n0 z5  ) hZ (hq hw 194 rfl) (hq hw 184 rfl) (by decide) (by decide)) (g := (mkF m 25 #[rv r0, iv 34, rv b3] [(.int (34 : Int32)), (.int (16 : Int32)), (.int (0 : Int32)), (.ref b3), (.int (0 : Int32)), (.ref r0)])) rfl (by rw [hml]; rfl) (argsL := [(.int (16 : Int32)), (.int (34 : Int32))]) (rest := [(.int (0 : Int32)), (.ref b3), (.int (0 : Int32)), (.ref r0)]) (lenOf pd_12 rfl) rfl (by show 2 * 0 + _ ≤ _; exact Nat.le_of_eq rfl) (hb hby d35_25) (fun _ _ => ⟨rfl, e3, (by decide : 1 + 0 ≤ _), (by decide : 34 + 0 ≤ _)⟩)
 dsimp only [Pt.U, Pt.locs, Pt.cells, Pt.slots] at X9 l9 y9 z9 st9 hQ9
 subst l9 y9 z9
 obtain ⟨rfl, N9q, eh9⟩ := hQ9
 have N9 := Fr.app N0 N9q
 obtain ⟨T10, h10, L10, X10, e10, N10, K10, V10, st10⟩ := cpA X9 hx hZ hown (hq hw 195 rfl) (hq hw 198 rfl) (hq hw 196 rfl) (hq hw 197 rfl) eh9 fa4 fa7 (Or.inl ⟨rfl, rfl⟩) (sp := (0 : Int32)) (dp := (0 : Int32)) (nn := (16 : Int32)) (by decide) (by decide) (by decide) (by decide) (by decide) rfl (by decide) N9 g_b3 (g := (mkF m 28 #[rv r0, iv 34, rv b3] [(.int (16 : Int32)), (.int (0 : Int32)), (.ref b3), (.int (0 : Int32)), (.ref r0)])) rfl (by rw [hml]; rfl) rfl (hb hby d35_28) (by decide) (W := 0) (by show 2 * 0 + _ ≤ _; exact Nat.le_of_eq rfl) (by decide)
 have fa11 := fa4.keep K10 (ninS ne_r0_b3 nin0)
 have z12 : n0 ≤ h10.size := Nat.le_trans z5 K10.1
 have kp13 : Keep h0 h10 [] := kp6.trans K10 (allS (Or.inr sz_b3) all0)
 have fa14 : Arv Z h10 b3 k3 .byte (34 : Int32) (own_cp own_z34 vd (0 : Int32) (16 : Int32)) (.int (0 : Int32)) := V10
 obtain ⟨fs, hr, hrun, hended, hW, hsame⟩ := X10.leave (v := some (.ref b3)) (fun h => by rw [Bd.returns] at h; cases h)
 refine ⟨_, _, G2 _ ?_, hrun, hended, _, _, rfl, ?_, ⟨_, rfl⟩, hW, hsame.mono (by decide) (by decide)⟩
 ·skip
  refine XS.icmpYes X0.here hx rfl (pc0 := 3) (pc' := 14) rfl (hb hby d35_3) rfl (feq (by decide)).2 (by decide) (by decide) ?_
  refine XS.iloadN X0.here hx rfl (hb hby d35_14) rfl ?_
  refine st3 _ ?_
  refine XS.astoreN X3.here hx rfl (hb hby d35_17) rfl rfl (l' := #[rv r0, iv 34, rv b3]) rfl ?_
  refine XS.aloadN X3.here hx rfl (hb hby d35_18) rfl rfl ?_
  refine XS.iconst X3.here hx rfl (hb hby d35_19) ?_
  refine XS.aloadN X3.here hx rfl (hb hby d35_20) rfl rfl ?_
  refine XS.iconst X3.here hx rfl (hb hby d35_21) ?_
  refine XS.aloadN X3.here hx rfl (hb hby d35_22) rfl rfl ?_
  refine X3.arraylength hx (by rw [e3]; exact Ar8.1) (State.isArrayOf_alike hZ.alike Ar8.2.1) (g := (mkF m 23 #[rv r0, iv 34, rv b3] [(.ref r0), (.int (0 : Int32)), (.ref b3), (.int (0 : Int32)), (.ref r0)])) rfl rfl (hb hby d35_23) _ ?_
  rw [len_of S8 M8]
  refine XS.iloadN X3.here hx rfl (hb hby d35_24) rfl ?_
  refine st9 _ ?_
  refine st10 _ ?_
  refine XS.aloadN X10.here hx rfl (hb hby d35_31) rfl rfl ?_
  exact retOut X10 hx Bd.returns rfl (Or.inr (Or.inr (Or.inr (Or.inr ⟨rfl, rfl, rfl⟩)))) (hb hby d35_32) hr
 ·show Q35 Z r0 kd vd h0 n0 _ T10.heap _
  rw [e10]
  exact ⟨b3, k3, rfl, N10, kp13, g_b3, sz_b3, fa14⟩
theorem d32_0 : decode jdk_68_method_10_code 0 = .ok (.aload_n 0, 1) := by decide +kernel
theorem d32_1 : decode jdk_68_method_10_code 1 = .ok (.getfield 15, 3) := by decide +kernel
theorem d32_4 : decode jdk_68_method_10_code 4 = .ok (.arraylength, 1) := by decide +kernel
theorem d32_5 : decode jdk_68_method_10_code 5 = .ok (.istore_n 2, 1) := by decide +kernel
theorem d32_6 : decode jdk_68_method_10_code 6 = .ok (.iload_n 1, 1) := by decide +kernel
theorem d32_7 : decode jdk_68_method_10_code 7 = .ok (.aload_n 0, 1) := by decide +kernel
theorem d32_8 : decode jdk_68_method_10_code 8 = .ok (.getfield 22, 3) := by decide +kernel
theorem d32_11 : decode jdk_68_method_10_code 11 = .ok (.ishl, 1) := by decide +kernel
theorem d32_12 : decode jdk_68_method_10_code 12 = .ok (.istore_n 3, 1) := by decide +kernel
theorem d32_13 : decode jdk_68_method_10_code 13 = .ok (.iload_n 3, 1) := by decide +kernel
theorem d32_14 : decode jdk_68_method_10_code 14 = .ok (.iload_n 2, 1) := by decide +kernel
theorem d32_15 : decode jdk_68_method_10_code 15 = .ok (.isub, 1) := by decide +kernel
theorem d32_16 : decode jdk_68_method_10_code 16 = .ok (.istore 4, 2) := by decide +kernel
theorem d32_18 : decode jdk_68_method_10_code 18 = .ok (.iload_n 2, 1) := by decide +kernel
theorem d32_19 : decode jdk_68_method_10_code 19 = .ok (.iload 4, 2) := by decide +kernel
theorem d32_21 : decode jdk_68_method_10_code 21 = .ok (.iload_n 2, 1) := by decide +kernel
theorem d32_22 : decode jdk_68_method_10_code 22 = .ok (.iconst 2, 1) := by decide +kernel
theorem d32_23 : decode jdk_68_method_10_code 23 = .ok (.aload_n 0, 1) := by decide +kernel
theorem d32_24 : decode jdk_68_method_10_code 24 = .ok (.getfield 22, 3) := by decide +kernel
theorem d32_27 : decode jdk_68_method_10_code 27 = .ok (.ishl, 1) := by decide +kernel
theorem d32_28 : decode jdk_68_method_10_code 28 = .ok (.iadd, 1) := by decide +kernel
theorem d32_29 : decode jdk_68_method_10_code 29 = .ok (.invokestatic 114, 3) := by decide +kernel
theorem pd_14 : parseMethodDescriptor "(III)I" = some ⟨[.int, .int, .int], some .int⟩ := by decide +kernel
theorem d32_32 : decode jdk_68_method_10_code 32 = .ok (.istore 5, 2) := by decide +kernel
theorem d32_34 : decode jdk_68_method_10_code 34 = .ok (.iload 5, 2) := by decide +kernel
theorem d32_36 : decode jdk_68_method_10_code 36 = .ok (.ldc 39, 2) := by decide +kernel
theorem d32_38 : decode jdk_68_method_10_code 38 = .ok (.if_icmp .ne 13, 3) := by decide +kernel
theorem d32_51 : decode jdk_68_method_10_code 51 = .ok (.iload 5, 2) := by decide +kernel
theorem d32_53 : decode jdk_68_method_10_code 53 = .ok (.aload_n 0, 1) := by decide +kernel
theorem d32_54 : decode jdk_68_method_10_code 54 = .ok (.getfield 22, 3) := by decide +kernel
theorem d32_57 : decode jdk_68_method_10_code 57 = .ok (.ishr, 1) := by decide +kernel
theorem d32_58 : decode jdk_68_method_10_code 58 = .ok (.ireturn, 1) := by decide +kernel
def QNC18 (Z : State) (r0 : Addr) (tb : Addr) (kd : ClassId) (vd : List Value) (h0 : Heap) (n0 : Nat) (v : Option Value) (h : Heap) (L : List Loc) : Prop := v = some (.int (34 : Int32)) ∧ Fr n0 L ∧ h = h0
theorem ef_rmNC18 (m : MethodId) (x0 : Addr) (x1 : Int32) : entryFrame m #[(.ref x0), (.int x1)] 6 = mkF m 0 #[.val (.ref x0), .val (.int x1), .unset, .unset, .unset, .unset] [] := by first | (simp [entryFrame, mkF, argsToLocals, Value.category]; done) | rfl
set_option maxRecDepth 65536 in
set_option maxHeartbeats 40000000 in
theorem rmNC18 (l : Launch) (Z : State) (a0 : Array Value) (hw : ∀ d ∈ tables_1, d.before a0 Z = true) (ws : List Jvm.Cond) (r0 : Addr) (tb : Addr) (kd : ClassId) (vd : List Value) (h0 : Heap) (n0 : Nat) (Z0 : n0 ≤ h0.size) (Fc : Fld Z h0 r0 "java/lang/AbstractStringBuilder" "coder" "B" (.int (0 : Int32))) (Fv : Fld Z h0 r0 "java/lang/AbstractStringBuilder" "value" "[B" (.ref tb)) (Vd : Arv Z h0 tb kd .byte (16 : Int32) vd (.int (0 : Int32))) :
  MetFree l (⟨"java/lang/AbstractStringBuilder", "newCapacity", "(I)I"⟩ : MethodName) (head1 (Jvm.Cond.code (⟨"java/lang/AbstractStringBuilder", "newCapacity", "(I)I"⟩ : MethodName) jdk_68_method_10_code 6 (some .int) :: ws) ({ frames := 2, cells := 0, slots := 0, locals := 29 } : Room)) (fun a U => a = #[(.ref r0), (.int (18 : Int32))] ∧ Z.Warmed39 U.vm ∧ U.heap = h0) (fun _ _ _ _ _ => True) (fun _ U o U' => ∃ v L, o = .returned v ∧ QNC18 Z r0 tb kd vd h0 n0 v U'.heap L ∧ FrameEnd U o U' L ({ frames := 2, cells := 0, slots := 0, locals := 29 } : Room).cells ({ frames := 2, cells := 0, slots := 0, locals := 29 } : Room).slots) := by
 refine MetFree.of_bodySF (plainFor_of_name pnc_java_lang_AbstractStringBuilder) hisR ?_
 intro p e s m args below meth c s₁ Bd hml0 hP hK
 obtain ⟨rfl, hZ, hh⟩ := hP
 have hx := Bd.exec
 have hby := Bd.bytes
 have hml : c.maxLocals = 6 := hml0
 have hown : s.vm.findClass "java/lang/AbstractStringBuilder" = some m.cls := findClass_of_methodNamed Bd.named
 have hnm := (name_of_methodNamed Bd.named Bd.method).1
 have X0 : Stand p l e ({ frames := 2, cells := 0, slots := 0, locals := 29 } : Room) s m #[(.ref r0), (.int (18 : Int32))] below meth c s₁ [] 0 0 := Stand.of_body Bd
 have e0 : s₁.heap = h0 := by rw [← hh, Bd.state]; rfl
 have N0 := Fr.nil n0
 have kp0 : Keep h0 h0 [] := Keep.refl _ _
 have G0 : ∀ t, Steps p.tables e below (s₁.setTop (mkF m 0 #[rv r0, iv 18, .unset, .unset, .unset, .unset] [])) t → Steps p.tables e below (s₁.setTop (entryFrame m #[(.ref r0), (.int (18 : Int32))] 6)) t := fun t k => castTop (ef_rmNC18 m r0 (18 : Int32)) k
 obtain ⟨T1, X1, e1, st1⟩ := getF X0 hx hZ hown (host := "") (Or.inl (hq hw 149 rfl)) Via.refl e0 Fv (g := (mkF m 1 #[rv r0, iv 18, .unset, .unset, .unset, .unset] [(.ref r0)])) rfl rfl (hb hby d32_1)
 obtain ⟨cl2, Ar2, q2, S2, M2, H2, G2⟩ := id Vd
 obtain ⟨T3, X3, e3, st3⟩ := getF X1 hx hZ hown (host := "") (Or.inl (hq hw 151 rfl)) Via.refl e1 Fc (g := (mkF m 8 #[rv r0, iv 18, iv 16, .unset, .unset, .unset] [(.ref r0), (.int (18 : Int32))])) rfl rfl (hb hby d32_8)
 obtain ⟨T4, X4, e4, st4⟩ := getF X3 hx hZ hown (host := "") (Or.inl (hq hw 151 rfl)) Via.refl e3 Fc (g := (mkF m 24 #[rv r0, iv 18, iv 16, iv 18, iv 2, .unset] [(.ref r0), (.int (2 : Int32)), (.int (16 : Int32)), (.int (2 : Int32)), (.int (16 : Int32))])) rfl rfl (hb hby d32_24)
 obtain ⟨_, _, ⟨T5, L5, k5, n5⟩, -, X5, ⟨Lc5, hQ5, l5, y5, z5⟩, st5⟩ := Jvm.LawKit.callS X4 hx (y := (⟨"jdk/internal/util/ArraysSupport", "newLength", "(III)I"⟩ : MethodName)) hown (mvT hZ (hq hw 178 rfl)) (mvT hZ (hq hw 179 rfl)) (mvT hZ (hq hw 180 rfl)) (mvT hZ (hq hw 181 rfl)) (by decide) (backOf (W := 0) (rmL33_16_2_18 l Z a0 hw []   h0 n0 Z0  ) hZ (hq hw 181 rfl) (hq hw 180 rfl) (by decide) (by decide)) (g := (mkF m 29 #[rv r0, iv 18, iv 16, iv 18, iv 2, .unset] [(.int (18 : Int32)), (.int (2 : Int32)), (.int (16 : Int32))])) rfl (by rw [hml]; rfl) (argsL := [(.int (16 : Int32)), (.int (2 : Int32)), (.int (18 : Int32))]) (rest := []) (lenOf pd_14 rfl) rfl (by show 2 * 0 + _ ≤ _; exact Nat.le_of_eq rfl) (hb hby d32_29) (fun _ _ => ⟨rfl, e4, (by decide : 0 + 0 ≤ _), (by decide : 0 + 0 ≤ _)⟩)
 dsimp only [Pt.U, Pt.locs, Pt.cells, Pt.slots] at X5 l5 y5 z5 st5 hQ5
 subst l5 y5 z5
 obtain ⟨rfl, N5q, eh5⟩ := hQ5
 have N5 := Fr.app N0 N5q
 have G6 : ∀ t, Steps p.tables e below (T5.setTop (mkF m 38 #[rv r0, iv 18, iv 16, iv 18, iv 2, iv 34] [(.int (2147483647 : Int32)), (.int (34 : Int32))])) t → Steps p.tables e below (s₁.setTop (entryFrame m #[(.ref r0), (.int (18 : Int32))] 6)) t := by
  intro t kt
  refine G0 _ ?_
  refine XS.aloadN X0.here hx rfl (hb hby d32_0) rfl rfl ?_
  refine st1 _ ?_
  refine X1.arraylength hx (by rw [e1]; exact Ar2.1) (State.isArrayOf_alike hZ.alike Ar2.2.1) (g := (mkF m 4 #[rv r0, iv 18, .unset, .unset, .unset, .unset] [(.ref tb)])) rfl rfl (hb hby d32_4) _ ?_
  rw [len_of S2 M2]
  refine XS.istoreN X1.here hx rfl (hb hby d32_5) rfl (l' := #[rv r0, iv 18, iv 16, .unset, .unset, .unset]) rfl ?_
  refine XS.iloadN X1.here hx rfl (hb hby d32_6) rfl ?_
  refine XS.aloadN X1.here hx rfl (hb hby d32_7) rfl rfl ?_
  refine st3 _ ?_
  refine XS.ishl X3.here hx rfl (hb hby d32_11) rfl ?_
  refine XS.istoreN X3.here hx rfl (hb hby d32_12) rfl (l' := #[rv r0, iv 18, iv 16, iv 18, .unset, .unset]) rfl ?_
  refine XS.iloadN X3.here hx rfl (hb hby d32_13) rfl ?_
  refine XS.iloadN X3.here hx rfl (hb hby d32_14) rfl ?_
  refine XS.isub X3.here hx rfl (hb hby d32_15) rfl ?_
  refine XS.istore X3.here hx rfl (hb hby d32_16) rfl (l' := #[rv r0, iv 18, iv 16, iv 18, iv 2, .unset]) rfl ?_
  refine XS.iloadN X3.here hx rfl (hb hby d32_18) rfl ?_
  refine XS.iload X3.here hx rfl (hb hby d32_19) rfl ?_
  refine XS.iloadN X3.here hx rfl (hb hby d32_21) rfl ?_
  refine XS.iconst X3.here hx rfl (hb hby d32_22) ?_
  refine XS.aloadN X3.here hx rfl (hb hby d32_23) rfl rfl ?_
  refine st4 _ ?_
  show Steps p.tables e below (T4.setTop (mkF m 27 #[rv r0, iv 18, iv 16, iv 18, iv 2, .unset] [(.int (0 : Int32)), (.int (2 : Int32)), (.int (16 : Int32)), (.int (2 : Int32)), (.int (16 : Int32))])) _
  refine XS.ishl X4.here hx rfl (hb hby d32_27) rfl ?_
  refine XS.iadd X4.here hx rfl (hb hby d32_28) rfl ?_
  refine st5 _ ?_
  refine XS.istore X5.here hx rfl (hb hby d32_32) rfl (l' := #[rv r0, iv 18, iv 16, iv 18, iv 2, iv 34]) rfl ?_
  refine XS.iload X5.here hx rfl (hb hby d32_34) rfl ?_
  refine X5.ldcInt hx hown (mvT hZ (hq hw 187 rfl)) (g := (mkF m 36 #[rv r0, iv 18, iv 16, iv 18, iv 2, iv 34] [(.int (34 : Int32))])) rfl (hb hby d32_36) _ ?_
  exact kt
 obtain ⟨T7, X7, e7, st7⟩ := getF X5 hx hZ hown (host := "") (Or.inl (hq hw 151 rfl)) Via.refl eh5 Fc (g := (mkF m 54 #[rv r0, iv 18, iv 16, iv 18, iv 2, iv 34] [(.ref r0), (.int (34 : Int32))])) rfl rfl (hb hby d32_54)
 obtain ⟨fs, hr, hrun, hended, hW, hsame⟩ := X7.leave (v := some (.int (34 : Int32))) (fun h => by rw [Bd.returns] at h; cases h)
 refine ⟨_, _, G6 _ ?_, hrun, hended, _, _, rfl, ?_, ⟨_, rfl⟩, hW, hsame.mono (by decide) (by decide)⟩
 ·skip
  refine XS.icmpYes X5.here hx rfl (pc0 := 38) (pc' := 51) rfl (hb hby d32_38) rfl (feq (by decide)).2 (by decide) (by decide) ?_
  refine XS.iload X5.here hx rfl (hb hby d32_51) rfl ?_
  refine XS.aloadN X5.here hx rfl (hb hby d32_53) rfl rfl ?_
  refine st7 _ ?_
  refine XS.ishr X7.here hx rfl (hb hby d32_57) rfl ?_
  exact retI X7 hx Bd.returns (hb hby d32_58) hr
 ·show QNC18 Z r0 tb kd vd h0 n0 _ T7.heap _
  rw [e7]
  exact ⟨rfl, N5, rfl⟩
def QNC19 (Z : State) (r0 : Addr) (tb : Addr) (kd : ClassId) (vd : List Value) (h0 : Heap) (n0 : Nat) (v : Option Value) (h : Heap) (L : List Loc) : Prop := v = some (.int (34 : Int32)) ∧ Fr n0 L ∧ h = h0
theorem ef_rmNC19 (m : MethodId) (x0 : Addr) (x1 : Int32) : entryFrame m #[(.ref x0), (.int x1)] 6 = mkF m 0 #[.val (.ref x0), .val (.int x1), .unset, .unset, .unset, .unset] [] := by first | (simp [entryFrame, mkF, argsToLocals, Value.category]; done) | rfl
set_option maxRecDepth 65536 in
set_option maxHeartbeats 40000000 in
theorem rmNC19 (l : Launch) (Z : State) (a0 : Array Value) (hw : ∀ d ∈ tables_1, d.before a0 Z = true) (ws : List Jvm.Cond) (r0 : Addr) (tb : Addr) (kd : ClassId) (vd : List Value) (h0 : Heap) (n0 : Nat) (Z0 : n0 ≤ h0.size) (Fc : Fld Z h0 r0 "java/lang/AbstractStringBuilder" "coder" "B" (.int (0 : Int32))) (Fv : Fld Z h0 r0 "java/lang/AbstractStringBuilder" "value" "[B" (.ref tb)) (Vd : Arv Z h0 tb kd .byte (16 : Int32) vd (.int (0 : Int32))) :
  MetFree l (⟨"java/lang/AbstractStringBuilder", "newCapacity", "(I)I"⟩ : MethodName) (head1 (Jvm.Cond.code (⟨"java/lang/AbstractStringBuilder", "newCapacity", "(I)I"⟩ : MethodName) jdk_68_method_10_code 6 (some .int) :: ws) ({ frames := 2, cells := 0, slots := 0, locals := 29 } : Room)) (fun a U => a = #[(.ref r0), (.int (19 : Int32))] ∧ Z.Warmed39 U.vm ∧ U.heap = h0) (fun _ _ _ _ _ => True) (fun _ U o U' => ∃ v L, o = .returned v ∧ QNC19 Z r0 tb kd vd h0 n0 v U'.heap L ∧ FrameEnd U o U' L ({ frames := 2, cells := 0, slots := 0, locals := 29 } : Room).cells ({ frames := 2, cells := 0, slots := 0, locals := 29 } : Room).slots) := by
 refine MetFree.of_bodySF (plainFor_of_name pnc_java_lang_AbstractStringBuilder) hisR ?_
 intro p e s m args below meth c s₁ Bd hml0 hP hK
 obtain ⟨rfl, hZ, hh⟩ := hP
 have hx := Bd.exec
 have hby := Bd.bytes
 have hml : c.maxLocals = 6 := hml0
 have hown : s.vm.findClass "java/lang/AbstractStringBuilder" = some m.cls := findClass_of_methodNamed Bd.named
 have hnm := (name_of_methodNamed Bd.named Bd.method).1
 have X0 : Stand p l e ({ frames := 2, cells := 0, slots := 0, locals := 29 } : Room) s m #[(.ref r0), (.int (19 : Int32))] below meth c s₁ [] 0 0 := Stand.of_body Bd
 have e0 : s₁.heap = h0 := by rw [← hh, Bd.state]; rfl
 have N0 := Fr.nil n0
 have kp0 : Keep h0 h0 [] := Keep.refl _ _
 have G0 : ∀ t, Steps p.tables e below (s₁.setTop (mkF m 0 #[rv r0, iv 19, .unset, .unset, .unset, .unset] [])) t → Steps p.tables e below (s₁.setTop (entryFrame m #[(.ref r0), (.int (19 : Int32))] 6)) t := fun t k => castTop (ef_rmNC19 m r0 (19 : Int32)) k
 obtain ⟨T1, X1, e1, st1⟩ := getF X0 hx hZ hown (host := "") (Or.inl (hq hw 149 rfl)) Via.refl e0 Fv (g := (mkF m 1 #[rv r0, iv 19, .unset, .unset, .unset, .unset] [(.ref r0)])) rfl rfl (hb hby d32_1)
 obtain ⟨cl2, Ar2, q2, S2, M2, H2, G2⟩ := id Vd
 obtain ⟨T3, X3, e3, st3⟩ := getF X1 hx hZ hown (host := "") (Or.inl (hq hw 151 rfl)) Via.refl e1 Fc (g := (mkF m 8 #[rv r0, iv 19, iv 16, .unset, .unset, .unset] [(.ref r0), (.int (19 : Int32))])) rfl rfl (hb hby d32_8)
 obtain ⟨T4, X4, e4, st4⟩ := getF X3 hx hZ hown (host := "") (Or.inl (hq hw 151 rfl)) Via.refl e3 Fc (g := (mkF m 24 #[rv r0, iv 19, iv 16, iv 19, iv 3, .unset] [(.ref r0), (.int (2 : Int32)), (.int (16 : Int32)), (.int (3 : Int32)), (.int (16 : Int32))])) rfl rfl (hb hby d32_24)
 obtain ⟨_, _, ⟨T5, L5, k5, n5⟩, -, X5, ⟨Lc5, hQ5, l5, y5, z5⟩, st5⟩ := Jvm.LawKit.callS X4 hx (y := (⟨"jdk/internal/util/ArraysSupport", "newLength", "(III)I"⟩ : MethodName)) hown (mvT hZ (hq hw 178 rfl)) (mvT hZ (hq hw 179 rfl)) (mvT hZ (hq hw 180 rfl)) (mvT hZ (hq hw 181 rfl)) (by decide) (backOf (W := 0) (rmL33_16_3_18 l Z a0 hw []   h0 n0 Z0  ) hZ (hq hw 181 rfl) (hq hw 180 rfl) (by decide) (by decide)) (g := (mkF m 29 #[rv r0, iv 19, iv 16, iv 19, iv 3, .unset] [(.int (18 : Int32)), (.int (3 : Int32)), (.int (16 : Int32))])) rfl (by rw [hml]; rfl) (argsL := [(.int (16 : Int32)), (.int (3 : Int32)), (.int (18 : Int32))]) (rest := []) (lenOf pd_14 rfl) rfl (by show 2 * 0 + _ ≤ _; exact Nat.le_of_eq rfl) (hb hby d32_29) (fun _ _ => ⟨rfl, e4, (by decide : 0 + 0 ≤ _), (by decide : 0 + 0 ≤ _)⟩)
 dsimp only [Pt.U, Pt.locs, Pt.cells, Pt.slots] at X5 l5 y5 z5 st5 hQ5
 subst l5 y5 z5
 obtain ⟨rfl, N5q, eh5⟩ := hQ5
 have N5 := Fr.app N0 N5q
 have G6 : ∀ t, Steps p.tables e below (T5.setTop (mkF m 38 #[rv r0, iv 19, iv 16, iv 19, iv 3, iv 34] [(.int (2147483647 : Int32)), (.int (34 : Int32))])) t → Steps p.tables e below (s₁.setTop (entryFrame m #[(.ref r0), (.int (19 : Int32))] 6)) t := by
  intro t kt
  refine G0 _ ?_
  refine XS.aloadN X0.here hx rfl (hb hby d32_0) rfl rfl ?_
  refine st1 _ ?_
  refine X1.arraylength hx (by rw [e1]; exact Ar2.1) (State.isArrayOf_alike hZ.alike Ar2.2.1) (g := (mkF m 4 #[rv r0, iv 19, .unset, .unset, .unset, .unset] [(.ref tb)])) rfl rfl (hb hby d32_4) _ ?_
  rw [len_of S2 M2]
  refine XS.istoreN X1.here hx rfl (hb hby d32_5) rfl (l' := #[rv r0, iv 19, iv 16, .unset, .unset, .unset]) rfl ?_
  refine XS.iloadN X1.here hx rfl (hb hby d32_6) rfl ?_
  refine XS.aloadN X1.here hx rfl (hb hby d32_7) rfl rfl ?_
  refine st3 _ ?_
  refine XS.ishl X3.here hx rfl (hb hby d32_11) rfl ?_
  refine XS.istoreN X3.here hx rfl (hb hby d32_12) rfl (l' := #[rv r0, iv 19, iv 16, iv 19, .unset, .unset]) rfl ?_
  refine XS.iloadN X3.here hx rfl (hb hby d32_13) rfl ?_
  refine XS.iloadN X3.here hx rfl (hb hby d32_14) rfl ?_
  refine XS.isub X3.here hx rfl (hb hby d32_15) rfl ?_
  refine XS.istore X3.here hx rfl (hb hby d32_16) rfl (l' := #[rv r0, iv 19, iv 16, iv 19, iv 3, .unset]) rfl ?_
  refine XS.iloadN X3.here hx rfl (hb hby d32_18) rfl ?_
  refine XS.iload X3.here hx rfl (hb hby d32_19) rfl ?_
  refine XS.iloadN X3.here hx rfl (hb hby d32_21) rfl ?_
  refine XS.iconst X3.here hx rfl (hb hby d32_22) ?_
  refine XS.aloadN X3.here hx rfl (hb hby d32_23) rfl rfl ?_
  refine st4 _ ?_
  show Steps p.tables e below (T4.setTop (mkF m 27 #[rv r0, iv 19, iv 16, iv 19, iv 3, .unset] [(.int (0 : Int32)), (.int (2 : Int32)), (.int (16 : Int32)), (.int (3 : Int32)), (.int (16 : Int32))])) _
  refine XS.ishl X4.here hx rfl (hb hby d32_27) rfl ?_
  refine XS.iadd X4.here hx rfl (hb hby d32_28) rfl ?_
  refine st5 _ ?_
  refine XS.istore X5.here hx rfl (hb hby d32_32) rfl (l' := #[rv r0, iv 19, iv 16, iv 19, iv 3, iv 34]) rfl ?_
  refine XS.iload X5.here hx rfl (hb hby d32_34) rfl ?_
  refine X5.ldcInt hx hown (mvT hZ (hq hw 187 rfl)) (g := (mkF m 36 #[rv r0, iv 19, iv 16, iv 19, iv 3, iv 34] [(.int (34 : Int32))])) rfl (hb hby d32_36) _ ?_
  exact kt
 obtain ⟨T7, X7, e7, st7⟩ := getF X5 hx hZ hown (host := "") (Or.inl (hq hw 151 rfl)) Via.refl eh5 Fc (g := (mkF m 54 #[rv r0, iv 19, iv 16, iv 19, iv 3, iv 34] [(.ref r0), (.int (34 : Int32))])) rfl rfl (hb hby d32_54)
 obtain ⟨fs, hr, hrun, hended, hW, hsame⟩ := X7.leave (v := some (.int (34 : Int32))) (fun h => by rw [Bd.returns] at h; cases h)
 refine ⟨_, _, G6 _ ?_, hrun, hended, _, _, rfl, ?_, ⟨_, rfl⟩, hW, hsame.mono (by decide) (by decide)⟩
 ·skip
  refine XS.icmpYes X5.here hx rfl (pc0 := 38) (pc' := 51) rfl (hb hby d32_38) rfl (feq (by decide)).2 (by decide) (by decide) ?_
  refine XS.iload X5.here hx rfl (hb hby d32_51) rfl ?_
  refine XS.aloadN X5.here hx rfl (hb hby d32_53) rfl rfl ?_
  refine st7 _ ?_
  refine XS.ishr X7.here hx rfl (hb hby d32_57) rfl ?_
  exact retI X7 hx Bd.returns (hb hby d32_58) hr
 ·show QNC19 Z r0 tb kd vd h0 n0 _ T7.heap _
  rw [e7]
  exact ⟨rfl, N5, rfl⟩
theorem d31_0 : decode jdk_68_method_9_code 0 = .ok (.aload_n 0, 1) := by decide +kernel
theorem d31_1 : decode jdk_68_method_9_code 1 = .ok (.getfield 15, 3) := by decide +kernel
theorem d31_4 : decode jdk_68_method_9_code 4 = .ok (.arraylength, 1) := by decide +kernel
theorem d31_5 : decode jdk_68_method_9_code 5 = .ok (.aload_n 0, 1) := by decide +kernel
theorem d31_6 : decode jdk_68_method_9_code 6 = .ok (.getfield 22, 3) := by decide +kernel
theorem d31_9 : decode jdk_68_method_9_code 9 = .ok (.ishr, 1) := by decide +kernel
theorem d31_10 : decode jdk_68_method_9_code 10 = .ok (.istore_n 2, 1) := by decide +kernel
theorem d31_11 : decode jdk_68_method_9_code 11 = .ok (.iload_n 1, 1) := by decide +kernel
theorem d31_12 : decode jdk_68_method_9_code 12 = .ok (.iload_n 2, 1) := by decide +kernel
theorem d31_13 : decode jdk_68_method_9_code 13 = .ok (.isub, 1) := by decide +kernel
theorem d31_14 : decode jdk_68_method_9_code 14 = .ok (.ifCond .le 24, 3) := by decide +kernel
theorem d31_17 : decode jdk_68_method_9_code 17 = .ok (.aload_n 0, 1) := by decide +kernel
theorem d31_18 : decode jdk_68_method_9_code 18 = .ok (.aload_n 0, 1) := by decide +kernel
theorem d31_19 : decode jdk_68_method_9_code 19 = .ok (.getfield 15, 3) := by decide +kernel
theorem d31_22 : decode jdk_68_method_9_code 22 = .ok (.aload_n 0, 1) := by decide +kernel
theorem d31_23 : decode jdk_68_method_9_code 23 = .ok (.iload_n 1, 1) := by decide +kernel
theorem d31_24 : decode jdk_68_method_9_code 24 = .ok (.invokevirtual 104, 3) := by decide +kernel
theorem pd_15 : parseMethodDescriptor "(I)I" = some ⟨[.int], some .int⟩ := by decide +kernel
theorem d31_27 : decode jdk_68_method_9_code 27 = .ok (.aload_n 0, 1) := by decide +kernel
theorem d31_28 : decode jdk_68_method_9_code 28 = .ok (.getfield 22, 3) := by decide +kernel
theorem d31_31 : decode jdk_68_method_9_code 31 = .ok (.ishl, 1) := by decide +kernel
theorem d31_32 : decode jdk_68_method_9_code 32 = .ok (.invokestatic 108, 3) := by decide +kernel
theorem pd_16 : parseMethodDescriptor "([BI)[B" = some ⟨[(.array .byte), .int], some (.array .byte)⟩ := by decide +kernel
theorem d31_35 : decode jdk_68_method_9_code 35 = .ok (.putfield 15, 3) := by decide +kernel
theorem d31_38 : decode jdk_68_method_9_code 38 = .ok (.return_, 1) := by decide +kernel
def QEC18 (Z : State) (r0 : Addr) (tb : Addr) (kd : ClassId) (vd : List Value) (h0 : Heap) (n0 : Nat) (v : Option Value) (h : Heap) (L : List Loc) : Prop := v = none ∧ Fr n0 L ∧ Keep h0 h [r0] ∧ Fld Z h r0 "java/lang/AbstractStringBuilder" "count" "I" (.int (0 : Int32)) ∧ Fld Z h r0 "java/lang/AbstractStringBuilder" "coder" "B" (.int (0 : Int32)) ∧ ∃ (t : Addr) (k : ClassId), Fld Z h r0 "java/lang/AbstractStringBuilder" "value" "[B" (.ref t) ∧ h0.size ≤ t ∧ n0 ≤ t ∧ Arv Z h t k .byte (34 : Int32) (own_cp own_z34 vd (0 : Int32) (16 : Int32)) (.int (0 : Int32))
theorem ef_rmEC18 (m : MethodId) (x0 : Addr) (x1 : Int32) : entryFrame m #[(.ref x0), (.int x1)] 3 = mkF m 0 #[.val (.ref x0), .val (.int x1), .unset] [] := by first | (simp [entryFrame, mkF, argsToLocals, Value.category]; done) | rfl
set_option maxRecDepth 65536 in
set_option maxHeartbeats 40000000 in
theorem rmEC18 (l : Launch) (Z : State) (a0 : Array Value) (hw : ∀ d ∈ tables_1, d.before a0 Z = true) (ws : List Jvm.Cond) (r0 : Addr) (tb : Addr) (kd : ClassId) (vd : List Value) (h0 : Heap) (n0 : Nat) (Z0 : n0 ≤ h0.size) (E0 : Exa Z h0 r0 "java/lang/StringBuilder") (Fn : Fld Z h0 r0 "java/lang/AbstractStringBuilder" "count" "I" (.int (0 : Int32))) (Fc : Fld Z h0 r0 "java/lang/AbstractStringBuilder" "coder" "B" (.int (0 : Int32))) (Fv : Fld Z h0 r0 "java/lang/AbstractStringBuilder" "value" "[B" (.ref tb)) (Vd : Arv Z h0 tb kd .byte (16 : Int32) vd (.int (0 : Int32))) (g_r0 : n0 ≤ r0) (dq_0b : r0 ≠ tb) :
  MetFree l (⟨"java/lang/AbstractStringBuilder", "ensureCapacityInternal", "(I)V"⟩ : MethodName) (head1 (Jvm.Cond.code (⟨"java/lang/AbstractStringBuilder", "ensureCapacityInternal", "(I)V"⟩ : MethodName) jdk_68_method_9_code 3 none :: ws) ({ frames := 3, cells := 1, slots := 34, locals := 48 } : Room)) (fun a U => a = #[(.ref r0), (.int (18 : Int32))] ∧ Z.Warmed39 U.vm ∧ U.heap = h0) (fun _ _ _ _ _ => True) (fun _ U o U' => ∃ v L, o = .returned v ∧ QEC18 Z r0 tb kd vd h0 n0 v U'.heap L ∧ FrameEnd U o U' L ({ frames := 3, cells := 1, slots := 34, locals := 48 } : Room).cells ({ frames := 3, cells := 1, slots := 34, locals := 48 } : Room).slots) := by
 refine MetFree.of_bodySF (plainFor_of_name pnc_java_lang_AbstractStringBuilder) hisR ?_
 intro p e s m args below meth c s₁ Bd hml0 hP hK
 obtain ⟨rfl, hZ, hh⟩ := hP
 have hx := Bd.exec
 have hby := Bd.bytes
 have hml : c.maxLocals = 3 := hml0
 have hown : s.vm.findClass "java/lang/AbstractStringBuilder" = some m.cls := findClass_of_methodNamed Bd.named
 have hnm := (name_of_methodNamed Bd.named Bd.method).1
 have X0 : Stand p l e ({ frames := 3, cells := 1, slots := 34, locals := 48 } : Room) s m #[(.ref r0), (.int (18 : Int32))] below meth c s₁ [] 0 0 := Stand.of_body Bd
 have e0 : s₁.heap = h0 := by rw [← hh, Bd.state]; rfl
 have N0 := Fr.nil n0
 have kp0 : Keep h0 h0 [r0] := Keep.refl _ _
 have G0 : ∀ t, Steps p.tables e below (s₁.setTop (mkF m 0 #[rv r0, iv 18, .unset] [])) t → Steps p.tables e below (s₁.setTop (entryFrame m #[(.ref r0), (.int (18 : Int32))] 3)) t := fun t k => castTop (ef_rmEC18 m r0 (18 : Int32)) k
 obtain ⟨T1, X1, e1, st1⟩ := getF X0 hx hZ hown (host := "") (Or.inl (hq hw 149 rfl)) Via.refl e0 Fv (g := (mkF m 1 #[rv r0, iv 18, .unset] [(.ref r0)])) rfl rfl (hb hby d31_1)
 obtain ⟨cl2, Ar2, q2, S2, M2, H2, G2⟩ := id Vd
 obtain ⟨T3, X3, e3, st3⟩ := getF X1 hx hZ hown (host := "") (Or.inl (hq hw 151 rfl)) Via.refl e1 Fc (g := (mkF m 6 #[rv r0, iv 18, .unset] [(.ref r0), (.int (16 : Int32))])) rfl rfl (hb hby d31_6)
 have G4 : ∀ t, Steps p.tables e below (T3.setTop (mkF m 14 #[rv r0, iv 18, iv 16] [(.int (2 : Int32))])) t → Steps p.tables e below (s₁.setTop (entryFrame m #[(.ref r0), (.int (18 : Int32))] 3)) t := by
  intro t kt
  refine G0 _ ?_
  refine XS.aloadN X0.here hx rfl (hb hby d31_0) rfl rfl ?_
  refine st1 _ ?_
  refine X1.arraylength hx (by rw [e1]; exact Ar2.1) (State.isArrayOf_alike hZ.alike Ar2.2.1) (g := (mkF m 4 #[rv r0, iv 18, .unset] [(.ref tb)])) rfl rfl (hb hby d31_4) _ ?_
  rw [len_of S2 M2]
  refine XS.aloadN X1.here hx rfl (hb hby d31_5) rfl rfl ?_
  refine st3 _ ?_
  refine XS.ishr X3.here hx rfl (hb hby d31_9) rfl ?_
  refine XS.istoreN X3.here hx rfl (hb hby d31_10) rfl (l' := #[rv r0, iv 18, iv 16]) rfl ?_
  refine XS.iloadN X3.here hx rfl (hb hby d31_11) rfl ?_
  refine XS.iloadN X3.here hx rfl (hb hby d31_12) rfl ?_
  refine XS.isub X3.here hx rfl (hb hby d31_13) rfl ?_
  exact kt
 obtain ⟨T5, X5, e5, st5⟩ := getF X3 hx hZ hown (host := "") (Or.inl (hq hw 149 rfl)) Via.refl e3 Fv (g := (mkF m 19 #[rv r0, iv 18, iv 16] [(.ref r0), (.ref r0)])) rfl rfl (hb hby d31_19)
 obtain ⟨cq6, kq6, q6a, q6b, q6c⟩ := isOf hZ e5 E0
 obtain ⟨_, _, ⟨T6, L6, k6, n6⟩, -, X6, ⟨Lc6, hQ6, l6, y6, z6⟩, st6⟩ := X5.virtualBack hx (y := (⟨"java/lang/AbstractStringBuilder", "newCapacity", "(I)I"⟩ : MethodName)) (z := (⟨"java/lang/AbstractStringBuilder", "newCapacity", "(I)I"⟩ : MethodName)) hown (mvT hZ (hq hw 173 rfl)) (own_decl (mvT hZ (hq hw 174 rfl)) (mvT hZ (hq hw 177 rfl))) (notFace_of_selects (args := #[]) (mvT hZ (hq hw 176 rfl))) (mvT hZ (hq hw 176 rfl)) (mvT hZ (hq hw 174 rfl)) (by decide) (backOf (W := 2) (rmNC18 l Z a0 hw [] r0 tb kd vd h0 n0 Z0 Fc Fv Vd ) hZ (hq hw 177 rfl) (hq hw 145 rfl) (by decide) (by decide)) q6a q6c (g := (mkF m 24 #[rv r0, iv 18, iv 16] [(.int (18 : Int32)), (.ref r0), (.ref tb), (.ref r0)])) rfl (by rw [hml]; rfl) (Steps.refl _) (argsL := [(.int (18 : Int32))]) (rest := [(.ref tb), (.ref r0)]) (lenOf pd_15 rfl) rfl (by show 2 * 0 + _ ≤ _; exact Nat.le_of_eq rfl) (hb hby d31_24) (fun _ _ => ⟨rfl, e5, (by decide : 0 + 0 ≤ _), (by decide : 0 + 0 ≤ _)⟩)
 dsimp only [Pt.U, Pt.locs, Pt.cells, Pt.slots] at X6 l6 y6 z6 st6 hQ6
 subst l6 y6 z6
 obtain ⟨rfl, N6q, eh6⟩ := hQ6
 have N6 := Fr.app N0 N6q
 obtain ⟨T7, X7, e7, st7⟩ := getF X6 hx hZ hown (host := "") (Or.inl (hq hw 151 rfl)) Via.refl eh6 Fc (g := (mkF m 28 #[rv r0, iv 18, iv 16] [(.ref r0), (.int (34 : Int32)), (.ref tb), (.ref r0)])) rfl rfl (hb hby d31_28)
 obtain ⟨_, _, ⟨T8, L8, k8, n8⟩, -, X8, ⟨Lc8, hQ8, l8, y8, z8⟩, st8⟩ := Jvm.LawKit.callS X7 hx (y := (⟨"java/util/Arrays", "copyOf", "([BI)[B"⟩ : MethodName)) hown (mvT hZ (hq hw 188 rfl)) (mvT hZ (hq hw 189 rfl)) (mvT hZ (hq hw 190 rfl)) (mvT hZ (hq hw 191 rfl)) (by decide) (backOf (W := 1) (rm35 l Z a0 hw [] tb kd vd h0 n0 Z0 Vd ) hZ (hq hw 191 rfl) (hq hw 190 rfl) (by decide) (by decide)) (g := (mkF m 32 #[rv r0, iv 18, iv 16] [(.int (34 : Int32)), (.ref tb), (.ref r0)])) rfl (by rw [hml]; rfl) (argsL := [(.ref tb), (.int (34 : Int32))]) (rest := [(.ref r0)]) (lenOf pd_16 rfl) rfl (by show 2 * 0 + _ ≤ _; exact Nat.le_of_eq rfl) (hb hby d31_32) (fun _ _ => ⟨rfl, e7, (by decide : 0 + 1 ≤ _), (by decide : 0 + 34 ≤ _)⟩)
 dsimp only [Pt.U, Pt.locs, Pt.cells, Pt.slots] at X8 l8 y8 z8 st8 hQ8
 subst l8 y8 z8
 obtain ⟨bc8, kb8, rfl, N8q, K8, g_bc8, sz8, V8⟩ := hQ8
 have N8 := Fr.app N6 N8q
 have szk8 : h0.size ≤ bc8 := Nat.le_trans kp0.1 sz8
 have ne_r0_bc8 : r0 ≠ bc8 := Nat.ne_of_lt (Nat.lt_of_lt_of_le E0.lt sz8)
 have ne_tb_bc8 : tb ≠ bc8 := Nat.ne_of_lt (Nat.lt_of_lt_of_le Vd.lt sz8)
 have fa9 := E0.keep K8
 have fa10 := Fn.keep K8 nin0
 have fa11 := Fc.keep K8 nin0
 have fa12 := Fv.keep K8 nin0
 have fa13 := Vd.keep K8 nin0
 have z14 : n0 ≤ T8.heap.size := Nat.le_trans Z0 K8.1
 have kp15 : Keep h0 T8.heap [r0] := kp0.trans K8 all0
 obtain ⟨T16, h16, X16, e16, W16, st16⟩ := putF X8 hx hZ hown (host := "") (Or.inl (hq hw 149 rfl)) Via.refl rfl fa12 fa9 (Or.inl (hq hw 150 rfl)) (hq hw 135 rfl) (ty := (.array .byte)) (by decide) rfl rfl (g := (mkF m 35 #[rv r0, iv 18, iv 16] [(.ref bc8), (.ref r0)])) rfl rfl (hb hby d31_35)
 have fa17 := fa9.wr W16
 have fa18 := fa10.other W16 (Or.inr (slot_ne (Or.inl (hq hw 167 rfl)) (Or.inl (hq hw 150 rfl)) (by decide) (t := .int) (t' := (.array .byte)) (by decide) (by decide)))
 have fa19 := fa11.other W16 (Or.inr (slot_ne (Or.inl (hq hw 152 rfl)) (Or.inl (hq hw 150 rfl)) (by decide) (t := .byte) (t' := (.array .byte)) (by decide) (by decide)))
 have fa20 : Fld Z h16 r0 "java/lang/AbstractStringBuilder" "value" "[B" (.ref bc8) := fa12.same W16
 have fa21 := fa13.other W16 (Ne.symm dq_0b)
 have fa22 := V8.other W16 (Ne.symm ne_r0_bc8)
 have z23 : n0 ≤ h16.size := Nat.le_trans z14 (Nat.le_of_eq W16.size.symm)
 have kp24 : Keep h0 h16 [r0] := kp15.wr W16 (Or.inl (List.mem_of_getElem? (i := 0) rfl))
 have N16 := Fr.snoc X16 N8 g_r0
 obtain ⟨fs, hr, hrun, hended, hW, hsame⟩ := X16.leave (v := none) (fun _ => rfl)
 refine ⟨_, _, G4 _ ?_, hrun, hended, _, _, rfl, ?_, ⟨_, rfl⟩, hW, hsame.mono (by decide) (by decide)⟩
 ·skip
  refine XS.ifNo X3.here hx rfl (hb hby d31_14) rfl ((if0 _ _).trans (tlt (by decide)).2.2.2) ?_
  refine XS.aloadN X3.here hx rfl (hb hby d31_17) rfl rfl ?_
  refine XS.aloadN X3.here hx rfl (hb hby d31_18) rfl rfl ?_
  refine st5 _ ?_
  refine XS.aloadN X5.here hx rfl (hb hby d31_22) rfl rfl ?_
  refine XS.iloadN X5.here hx rfl (hb hby d31_23) rfl ?_
  refine st6.trans ?_
  refine XS.aloadN X6.here hx rfl (hb hby d31_27) rfl rfl ?_
  refine st7 _ ?_
  refine XS.ishl X7.here hx rfl (hb hby d31_31) rfl ?_
  show Steps p.tables e below (T7.setTop (mkF m 32 #[rv r0, iv 18, iv 16] [(.int (34 : Int32)), (.ref tb), (.ref r0)])) _
  refine st8 _ ?_
  refine st16 _ ?_
  exact X16.returnOut hx Bd.returns (hb hby d31_38) hr
 ·show QEC18 Z r0 tb kd vd h0 n0 _ T16.heap _
  rw [e16]
  exact ⟨rfl, N16, kp24, fa18, fa19, bc8, kb8, fa20, szk8, g_bc8, fa22⟩
def QEC19 (Z : State) (r0 : Addr) (tb : Addr) (kd : ClassId) (vd : List Value) (h0 : Heap) (n0 : Nat) (v : Option Value) (h : Heap) (L : List Loc) : Prop := v = none ∧ Fr n0 L ∧ Keep h0 h [r0] ∧ Fld Z h r0 "java/lang/AbstractStringBuilder" "count" "I" (.int (0 : Int32)) ∧ Fld Z h r0 "java/lang/AbstractStringBuilder" "coder" "B" (.int (0 : Int32)) ∧ ∃ (t : Addr) (k : ClassId), Fld Z h r0 "java/lang/AbstractStringBuilder" "value" "[B" (.ref t) ∧ h0.size ≤ t ∧ n0 ≤ t ∧ Arv Z h t k .byte (34 : Int32) (own_cp own_z34 vd (0 : Int32) (16 : Int32)) (.int (0 : Int32))
theorem ef_rmEC19 (m : MethodId) (x0 : Addr) (x1 : Int32) : entryFrame m #[(.ref x0), (.int x1)] 3 = mkF m 0 #[.val (.ref x0), .val (.int x1), .unset] [] := by first | (simp [entryFrame, mkF, argsToLocals, Value.category]; done) | rfl
set_option maxRecDepth 65536 in
set_option maxHeartbeats 40000000 in
theorem rmEC19 (l : Launch) (Z : State) (a0 : Array Value) (hw : ∀ d ∈ tables_1, d.before a0 Z = true) (ws : List Jvm.Cond) (r0 : Addr) (tb : Addr) (kd : ClassId) (vd : List Value) (h0 : Heap) (n0 : Nat) (Z0 : n0 ≤ h0.size) (E0 : Exa Z h0 r0 "java/lang/StringBuilder") (Fn : Fld Z h0 r0 "java/lang/AbstractStringBuilder" "count" "I" (.int (0 : Int32))) (Fc : Fld Z h0 r0 "java/lang/AbstractStringBuilder" "coder" "B" (.int (0 : Int32))) (Fv : Fld Z h0 r0 "java/lang/AbstractStringBuilder" "value" "[B" (.ref tb)) (Vd : Arv Z h0 tb kd .byte (16 : Int32) vd (.int (0 : Int32))) (g_r0 : n0 ≤ r0) (dq_0b : r0 ≠ tb) :
  MetFree l (⟨"java/lang/AbstractStringBuilder", "ensureCapacityInternal", "(I)V"⟩ : MethodName) (head1 (Jvm.Cond.code (⟨"java/lang/AbstractStringBuilder", "ensureCapacityInternal", "(I)V"⟩ : MethodName) jdk_68_method_9_code 3 none :: ws) ({ frames := 3, cells := 1, slots := 34, locals := 48 } : Room)) (fun a U => a = #[(.ref r0), (.int (19 : Int32))] ∧ Z.Warmed39 U.vm ∧ U.heap = h0) (fun _ _ _ _ _ => True) (fun _ U o U' => ∃ v L, o = .returned v ∧ QEC19 Z r0 tb kd vd h0 n0 v U'.heap L ∧ FrameEnd U o U' L ({ frames := 3, cells := 1, slots := 34, locals := 48 } : Room).cells ({ frames := 3, cells := 1, slots := 34, locals := 48 } : Room).slots) := by
 refine MetFree.of_bodySF (plainFor_of_name pnc_java_lang_AbstractStringBuilder) hisR ?_
 intro p e s m args below meth c s₁ Bd hml0 hP hK
 obtain ⟨rfl, hZ, hh⟩ := hP
 have hx := Bd.exec
 have hby := Bd.bytes
 have hml : c.maxLocals = 3 := hml0
 have hown : s.vm.findClass "java/lang/AbstractStringBuilder" = some m.cls := findClass_of_methodNamed Bd.named
 have hnm := (name_of_methodNamed Bd.named Bd.method).1
 have X0 : Stand p l e ({ frames := 3, cells := 1, slots := 34, locals := 48 } : Room) s m #[(.ref r0), (.int (19 : Int32))] below meth c s₁ [] 0 0 := Stand.of_body Bd
 have e0 : s₁.heap = h0 := by rw [← hh, Bd.state]; rfl
 have N0 := Fr.nil n0
 have kp0 : Keep h0 h0 [r0] := Keep.refl _ _
 have G0 : ∀ t, Steps p.tables e below (s₁.setTop (mkF m 0 #[rv r0, iv 19, .unset] [])) t → Steps p.tables e below (s₁.setTop (entryFrame m #[(.ref r0), (.int (19 : Int32))] 3)) t := fun t k => castTop (ef_rmEC19 m r0 (19 : Int32)) k
 obtain ⟨T1, X1, e1, st1⟩ := getF X0 hx hZ hown (host := "") (Or.inl (hq hw 149 rfl)) Via.refl e0 Fv (g := (mkF m 1 #[rv r0, iv 19, .unset] [(.ref r0)])) rfl rfl (hb hby d31_1)
 obtain ⟨cl2, Ar2, q2, S2, M2, H2, G2⟩ := id Vd
 obtain ⟨T3, X3, e3, st3⟩ := getF X1 hx hZ hown (host := "") (Or.inl (hq hw 151 rfl)) Via.refl e1 Fc (g := (mkF m 6 #[rv r0, iv 19, .unset] [(.ref r0), (.int (16 : Int32))])) rfl rfl (hb hby d31_6)
 have G4 : ∀ t, Steps p.tables e below (T3.setTop (mkF m 14 #[rv r0, iv 19, iv 16] [(.int (3 : Int32))])) t → Steps p.tables e below (s₁.setTop (entryFrame m #[(.ref r0), (.int (19 : Int32))] 3)) t := by
  intro t kt
  refine G0 _ ?_
  refine XS.aloadN X0.here hx rfl (hb hby d31_0) rfl rfl ?_
  refine st1 _ ?_
  refine X1.arraylength hx (by rw [e1]; exact Ar2.1) (State.isArrayOf_alike hZ.alike Ar2.2.1) (g := (mkF m 4 #[rv r0, iv 19, .unset] [(.ref tb)])) rfl rfl (hb hby d31_4) _ ?_
  rw [len_of S2 M2]
  refine XS.aloadN X1.here hx rfl (hb hby d31_5) rfl rfl ?_
  refine st3 _ ?_
  refine XS.ishr X3.here hx rfl (hb hby d31_9) rfl ?_
  refine XS.istoreN X3.here hx rfl (hb hby d31_10) rfl (l' := #[rv r0, iv 19, iv 16]) rfl ?_
  refine XS.iloadN X3.here hx rfl (hb hby d31_11) rfl ?_
  refine XS.iloadN X3.here hx rfl (hb hby d31_12) rfl ?_
  refine XS.isub X3.here hx rfl (hb hby d31_13) rfl ?_
  exact kt
 obtain ⟨T5, X5, e5, st5⟩ := getF X3 hx hZ hown (host := "") (Or.inl (hq hw 149 rfl)) Via.refl e3 Fv (g := (mkF m 19 #[rv r0, iv 19, iv 16] [(.ref r0), (.ref r0)])) rfl rfl (hb hby d31_19)
 obtain ⟨cq6, kq6, q6a, q6b, q6c⟩ := isOf hZ e5 E0
 obtain ⟨_, _, ⟨T6, L6, k6, n6⟩, -, X6, ⟨Lc6, hQ6, l6, y6, z6⟩, st6⟩ := X5.virtualBack hx (y := (⟨"java/lang/AbstractStringBuilder", "newCapacity", "(I)I"⟩ : MethodName)) (z := (⟨"java/lang/AbstractStringBuilder", "newCapacity", "(I)I"⟩ : MethodName)) hown (mvT hZ (hq hw 173 rfl)) (own_decl (mvT hZ (hq hw 174 rfl)) (mvT hZ (hq hw 177 rfl))) (notFace_of_selects (args := #[]) (mvT hZ (hq hw 176 rfl))) (mvT hZ (hq hw 176 rfl)) (mvT hZ (hq hw 174 rfl)) (by decide) (backOf (W := 2) (rmNC19 l Z a0 hw [] r0 tb kd vd h0 n0 Z0 Fc Fv Vd ) hZ (hq hw 177 rfl) (hq hw 145 rfl) (by decide) (by decide)) q6a q6c (g := (mkF m 24 #[rv r0, iv 19, iv 16] [(.int (19 : Int32)), (.ref r0), (.ref tb), (.ref r0)])) rfl (by rw [hml]; rfl) (Steps.refl _) (argsL := [(.int (19 : Int32))]) (rest := [(.ref tb), (.ref r0)]) (lenOf pd_15 rfl) rfl (by show 2 * 0 + _ ≤ _; exact Nat.le_of_eq rfl) (hb hby d31_24) (fun _ _ => ⟨rfl, e5, (by decide : 0 + 0 ≤ _), (by decide : 0 + 0 ≤ _)⟩)
 dsimp only [Pt.U, Pt.locs, Pt.cells, Pt.slots] at X6 l6 y6 z6 st6 hQ6
 subst l6 y6 z6
 obtain ⟨rfl, N6q, eh6⟩ := hQ6
 have N6 := Fr.app N0 N6q
 obtain ⟨T7, X7, e7, st7⟩ := getF X6 hx hZ hown (host := "") (Or.inl (hq hw 151 rfl)) Via.refl eh6 Fc (g := (mkF m 28 #[rv r0, iv 19, iv 16] [(.ref r0), (.int (34 : Int32)), (.ref tb), (.ref r0)])) rfl rfl (hb hby d31_28)
 obtain ⟨_, _, ⟨T8, L8, k8, n8⟩, -, X8, ⟨Lc8, hQ8, l8, y8, z8⟩, st8⟩ := Jvm.LawKit.callS X7 hx (y := (⟨"java/util/Arrays", "copyOf", "([BI)[B"⟩ : MethodName)) hown (mvT hZ (hq hw 188 rfl)) (mvT hZ (hq hw 189 rfl)) (mvT hZ (hq hw 190 rfl)) (mvT hZ (hq hw 191 rfl)) (by decide) (backOf (W := 1) (rm35 l Z a0 hw [] tb kd vd h0 n0 Z0 Vd ) hZ (hq hw 191 rfl) (hq hw 190 rfl) (by decide) (by decide)) (g := (mkF m 32 #[rv r0, iv 19, iv 16] [(.int (34 : Int32)), (.ref tb), (.ref r0)])) rfl (by rw [hml]; rfl) (argsL := [(.ref tb), (.int (34 : Int32))]) (rest := [(.ref r0)]) (lenOf pd_16 rfl) rfl (by show 2 * 0 + _ ≤ _; exact Nat.le_of_eq rfl) (hb hby d31_32) (fun _ _ => ⟨rfl, e7, (by decide : 0 + 1 ≤ _), (by decide : 0 + 34 ≤ _)⟩)
 dsimp only [Pt.U, Pt.locs, Pt.cells, Pt.slots] at X8 l8 y8 z8 st8 hQ8
 subst l8 y8 z8
 obtain ⟨bc8, kb8, rfl, N8q, K8, g_bc8, sz8, V8⟩ := hQ8
 have N8 := Fr.app N6 N8q
 have szk8 : h0.size ≤ bc8 := Nat.le_trans kp0.1 sz8
 have ne_r0_bc8 : r0 ≠ bc8 := Nat.ne_of_lt (Nat.lt_of_lt_of_le E0.lt sz8)
 have ne_tb_bc8 : tb ≠ bc8 := Nat.ne_of_lt (Nat.lt_of_lt_of_le Vd.lt sz8)
 have fa9 := E0.keep K8
 have fa10 := Fn.keep K8 nin0
 have fa11 := Fc.keep K8 nin0
 have fa12 := Fv.keep K8 nin0
 have fa13 := Vd.keep K8 nin0
 have z14 : n0 ≤ T8.heap.size := Nat.le_trans Z0 K8.1
 have kp15 : Keep h0 T8.heap [r0] := kp0.trans K8 all0
 obtain ⟨T16, h16, X16, e16, W16, st16⟩ := putF X8 hx hZ hown (host := "") (Or.inl (hq hw 149 rfl)) Via.refl rfl fa12 fa9 (Or.inl (hq hw 150 rfl)) (hq hw 135 rfl) (ty := (.array .byte)) (by decide) rfl rfl (g := (mkF m 35 #[rv r0, iv 19, iv 16] [(.ref bc8), (.ref r0)])) rfl rfl (hb hby d31_35)
 have fa17 := fa9.wr W16
 have fa18 := fa10.other W16 (Or.inr (slot_ne (Or.inl (hq hw 167 rfl)) (Or.inl (hq hw 150 rfl)) (by decide) (t := .int) (t' := (.array .byte)) (by decide) (by decide)))
 have fa19 := fa11.other W16 (Or.inr (slot_ne (Or.inl (hq hw 152 rfl)) (Or.inl (hq hw 150 rfl)) (by decide) (t := .byte) (t' := (.array .byte)) (by decide) (by decide)))
 have fa20 : Fld Z h16 r0 "java/lang/AbstractStringBuilder" "value" "[B" (.ref bc8) := fa12.same W16
 have fa21 := fa13.other W16 (Ne.symm dq_0b)
 have fa22 := V8.other W16 (Ne.symm ne_r0_bc8)
 have z23 : n0 ≤ h16.size := Nat.le_trans z14 (Nat.le_of_eq W16.size.symm)
 have kp24 : Keep h0 h16 [r0] := kp15.wr W16 (Or.inl (List.mem_of_getElem? (i := 0) rfl))
 have N16 := Fr.snoc X16 N8 g_r0
 obtain ⟨fs, hr, hrun, hended, hW, hsame⟩ := X16.leave (v := none) (fun _ => rfl)
 refine ⟨_, _, G4 _ ?_, hrun, hended, _, _, rfl, ?_, ⟨_, rfl⟩, hW, hsame.mono (by decide) (by decide)⟩
 ·skip
  refine XS.ifNo X3.here hx rfl (hb hby d31_14) rfl ((if0 _ _).trans (tlt (by decide)).2.2.2) ?_
  refine XS.aloadN X3.here hx rfl (hb hby d31_17) rfl rfl ?_
  refine XS.aloadN X3.here hx rfl (hb hby d31_18) rfl rfl ?_
  refine st5 _ ?_
  refine XS.aloadN X5.here hx rfl (hb hby d31_22) rfl rfl ?_
  refine XS.iloadN X5.here hx rfl (hb hby d31_23) rfl ?_
  refine st6.trans ?_
  refine XS.aloadN X6.here hx rfl (hb hby d31_27) rfl rfl ?_
  refine st7 _ ?_
  refine XS.ishl X7.here hx rfl (hb hby d31_31) rfl ?_
  show Steps p.tables e below (T7.setTop (mkF m 32 #[rv r0, iv 19, iv 16] [(.int (34 : Int32)), (.ref tb), (.ref r0)])) _
  refine st8 _ ?_
  refine st16 _ ?_
  exact X16.returnOut hx Bd.returns (hb hby d31_38) hr
 ·show QEC19 Z r0 tb kd vd h0 n0 _ T16.heap _
  rw [e16]
  exact ⟨rfl, N16, kp24, fa18, fa19, bc8, kb8, fa20, szk8, g_bc8, fa22⟩
def QED19 (Z : State) (r0 : Addr) (tb : Addr) (kd : ClassId) (vd : List Value) (h0 : Heap) (n0 : Nat) (v : Option Value) (h : Heap) (L : List Loc) : Prop := v = none ∧ Fr n0 L ∧ h = h0
theorem ef_rmED19 (m : MethodId) (x0 : Addr) (x1 : Int32) : entryFrame m #[(.ref x0), (.int x1)] 3 = mkF m 0 #[.val (.ref x0), .val (.int x1), .unset] [] := by first | (simp [entryFrame, mkF, argsToLocals, Value.category]; done) | rfl
set_option maxRecDepth 65536 in
set_option maxHeartbeats 40000000 in
theorem rmED19 (l : Launch) (Z : State) (a0 : Array Value) (hw : ∀ d ∈ tables_1, d.before a0 Z = true) (ws : List Jvm.Cond) (r0 : Addr) (tb : Addr) (kd : ClassId) (vd : List Value) (h0 : Heap) (n0 : Nat) (Z0 : n0 ≤ h0.size) (Fc : Fld Z h0 r0 "java/lang/AbstractStringBuilder" "coder" "B" (.int (0 : Int32))) (Fv : Fld Z h0 r0 "java/lang/AbstractStringBuilder" "value" "[B" (.ref tb)) (Vd : Arv Z h0 tb kd .byte (34 : Int32) vd (.int (0 : Int32))) :
  MetFree l (⟨"java/lang/AbstractStringBuilder", "ensureCapacityInternal", "(I)V"⟩ : MethodName) (head1 (Jvm.Cond.code (⟨"java/lang/AbstractStringBuilder", "ensureCapacityInternal", "(I)V"⟩ : MethodName) jdk_68_method_9_code 3 none :: ws) ({ frames := 0, cells := 0, slots := 0, locals := 0 } : Room)) (fun a U => a = #[(.ref r0), (.int (19 : Int32))] ∧ Z.Warmed39 U.vm ∧ U.heap = h0) (fun _ _ _ _ _ => True) (fun _ U o U' => ∃ v L, o = .returned v ∧ QED19 Z r0 tb kd vd h0 n0 v U'.heap L ∧ FrameEnd U o U' L ({ frames := 0, cells := 0, slots := 0, locals := 0 } : Room).cells ({ frames := 0, cells := 0, slots := 0, locals := 0 } : Room).slots) := by
 refine MetFree.of_bodySF (plainFor_of_name pnc_java_lang_AbstractStringBuilder) hisR ?_
 intro p e s m args below meth c s₁ Bd hml0 hP hK
 obtain ⟨rfl, hZ, hh⟩ := hP
 have hx := Bd.exec
 have hby := Bd.bytes
 have hml : c.maxLocals = 3 := hml0
 have hown : s.vm.findClass "java/lang/AbstractStringBuilder" = some m.cls := findClass_of_methodNamed Bd.named
 have hnm := (name_of_methodNamed Bd.named Bd.method).1
 have X0 : Stand p l e ({ frames := 0, cells := 0, slots := 0, locals := 0 } : Room) s m #[(.ref r0), (.int (19 : Int32))] below meth c s₁ [] 0 0 := Stand.of_body Bd
 have e0 : s₁.heap = h0 := by rw [← hh, Bd.state]; rfl
 have N0 := Fr.nil n0
 have kp0 : Keep h0 h0 [] := Keep.refl _ _
 have G0 : ∀ t, Steps p.tables e below (s₁.setTop (mkF m 0 #[rv r0, iv 19, .unset] [])) t → Steps p.tables e below (s₁.setTop (entryFrame m #[(.ref r0), (.int (19 : Int32))] 3)) t := fun t k => castTop (ef_rmED19 m r0 (19 : Int32)) k
 obtain ⟨T1, X1, e1, st1⟩ := getF X0 hx hZ hown (host := "") (Or.inl (hq hw 149 rfl)) Via.refl e0 Fv (g := (mkF m 1 #[rv r0, iv 19, .unset] [(.ref r0)])) rfl rfl (hb hby d31_1)
 obtain ⟨cl2, Ar2, q2, S2, M2, H2, G2⟩ := id Vd
 obtain ⟨T3, X3, e3, st3⟩ := getF X1 hx hZ hown (host := "") (Or.inl (hq hw 151 rfl)) Via.refl e1 Fc (g := (mkF m 6 #[rv r0, iv 19, .unset] [(.ref r0), (.int (34 : Int32))])) rfl rfl (hb hby d31_6)
 have G4 : ∀ t, Steps p.tables e below (T3.setTop (mkF m 14 #[rv r0, iv 19, iv 34] [(.int (-15 : Int32))])) t → Steps p.tables e below (s₁.setTop (entryFrame m #[(.ref r0), (.int (19 : Int32))] 3)) t := by
  intro t kt
  refine G0 _ ?_
  refine XS.aloadN X0.here hx rfl (hb hby d31_0) rfl rfl ?_
  refine st1 _ ?_
  refine X1.arraylength hx (by rw [e1]; exact Ar2.1) (State.isArrayOf_alike hZ.alike Ar2.2.1) (g := (mkF m 4 #[rv r0, iv 19, .unset] [(.ref tb)])) rfl rfl (hb hby d31_4) _ ?_
  rw [len_of S2 M2]
  refine XS.aloadN X1.here hx rfl (hb hby d31_5) rfl rfl ?_
  refine st3 _ ?_
  refine XS.ishr X3.here hx rfl (hb hby d31_9) rfl ?_
  refine XS.istoreN X3.here hx rfl (hb hby d31_10) rfl (l' := #[rv r0, iv 19, iv 34]) rfl ?_
  refine XS.iloadN X3.here hx rfl (hb hby d31_11) rfl ?_
  refine XS.iloadN X3.here hx rfl (hb hby d31_12) rfl ?_
  refine XS.isub X3.here hx rfl (hb hby d31_13) rfl ?_
  exact kt
 obtain ⟨fs, hr, hrun, hended, hW, hsame⟩ := X3.leave (v := none) (fun _ => rfl)
 refine ⟨_, _, G4 _ ?_, hrun, hended, _, _, rfl, ?_, ⟨_, rfl⟩, hW, hsame.mono (by decide) (by decide)⟩
 ·skip
  refine XS.ifYes X3.here hx rfl (pc0 := 14) (pc' := 38) rfl (hb hby d31_14) rfl ((if0 _ _).trans (flt (by decide)).2.2.2) (by decide) (by decide) ?_
  exact X3.returnOut hx Bd.returns (hb hby d31_38) hr
 ·show QED19 Z r0 tb kd vd h0 n0 _ T3.heap _
  rw [e3]
  exact ⟨rfl, N0, rfl⟩
def QED20 (Z : State) (r0 : Addr) (tb : Addr) (kd : ClassId) (vd : List Value) (h0 : Heap) (n0 : Nat) (v : Option Value) (h : Heap) (L : List Loc) : Prop := v = none ∧ Fr n0 L ∧ h = h0
theorem ef_rmED20 (m : MethodId) (x0 : Addr) (x1 : Int32) : entryFrame m #[(.ref x0), (.int x1)] 3 = mkF m 0 #[.val (.ref x0), .val (.int x1), .unset] [] := by first | (simp [entryFrame, mkF, argsToLocals, Value.category]; done) | rfl
set_option maxRecDepth 65536 in
set_option maxHeartbeats 40000000 in
theorem rmED20 (l : Launch) (Z : State) (a0 : Array Value) (hw : ∀ d ∈ tables_1, d.before a0 Z = true) (ws : List Jvm.Cond) (r0 : Addr) (tb : Addr) (kd : ClassId) (vd : List Value) (h0 : Heap) (n0 : Nat) (Z0 : n0 ≤ h0.size) (Fc : Fld Z h0 r0 "java/lang/AbstractStringBuilder" "coder" "B" (.int (0 : Int32))) (Fv : Fld Z h0 r0 "java/lang/AbstractStringBuilder" "value" "[B" (.ref tb)) (Vd : Arv Z h0 tb kd .byte (34 : Int32) vd (.int (0 : Int32))) :
  MetFree l (⟨"java/lang/AbstractStringBuilder", "ensureCapacityInternal", "(I)V"⟩ : MethodName) (head1 (Jvm.Cond.code (⟨"java/lang/AbstractStringBuilder", "ensureCapacityInternal", "(I)V"⟩ : MethodName) jdk_68_method_9_code 3 none :: ws) ({ frames := 0, cells := 0, slots := 0, locals := 0 } : Room)) (fun a U => a = #[(.ref r0), (.int (20 : Int32))] ∧ Z.Warmed39 U.vm ∧ U.heap = h0) (fun _ _ _ _ _ => True) (fun _ U o U' => ∃ v L, o = .returned v ∧ QED20 Z r0 tb kd vd h0 n0 v U'.heap L ∧ FrameEnd U o U' L ({ frames := 0, cells := 0, slots := 0, locals := 0 } : Room).cells ({ frames := 0, cells := 0, slots := 0, locals := 0 } : Room).slots) := by
 refine MetFree.of_bodySF (plainFor_of_name pnc_java_lang_AbstractStringBuilder) hisR ?_
 intro p e s m args below meth c s₁ Bd hml0 hP hK
 obtain ⟨rfl, hZ, hh⟩ := hP
 have hx := Bd.exec
 have hby := Bd.bytes
 have hml : c.maxLocals = 3 := hml0
 have hown : s.vm.findClass "java/lang/AbstractStringBuilder" = some m.cls := findClass_of_methodNamed Bd.named
 have hnm := (name_of_methodNamed Bd.named Bd.method).1
 have X0 : Stand p l e ({ frames := 0, cells := 0, slots := 0, locals := 0 } : Room) s m #[(.ref r0), (.int (20 : Int32))] below meth c s₁ [] 0 0 := Stand.of_body Bd
 have e0 : s₁.heap = h0 := by rw [← hh, Bd.state]; rfl
 have N0 := Fr.nil n0
 have kp0 : Keep h0 h0 [] := Keep.refl _ _
 have G0 : ∀ t, Steps p.tables e below (s₁.setTop (mkF m 0 #[rv r0, iv 20, .unset] [])) t → Steps p.tables e below (s₁.setTop (entryFrame m #[(.ref r0), (.int (20 : Int32))] 3)) t := fun t k => castTop (ef_rmED20 m r0 (20 : Int32)) k
 obtain ⟨T1, X1, e1, st1⟩ := getF X0 hx hZ hown (host := "") (Or.inl (hq hw 149 rfl)) Via.refl e0 Fv (g := (mkF m 1 #[rv r0, iv 20, .unset] [(.ref r0)])) rfl rfl (hb hby d31_1)
 obtain ⟨cl2, Ar2, q2, S2, M2, H2, G2⟩ := id Vd
 obtain ⟨T3, X3, e3, st3⟩ := getF X1 hx hZ hown (host := "") (Or.inl (hq hw 151 rfl)) Via.refl e1 Fc (g := (mkF m 6 #[rv r0, iv 20, .unset] [(.ref r0), (.int (34 : Int32))])) rfl rfl (hb hby d31_6)
 have G4 : ∀ t, Steps p.tables e below (T3.setTop (mkF m 14 #[rv r0, iv 20, iv 34] [(.int (-14 : Int32))])) t → Steps p.tables e below (s₁.setTop (entryFrame m #[(.ref r0), (.int (20 : Int32))] 3)) t := by
  intro t kt
  refine G0 _ ?_
  refine XS.aloadN X0.here hx rfl (hb hby d31_0) rfl rfl ?_
  refine st1 _ ?_
  refine X1.arraylength hx (by rw [e1]; exact Ar2.1) (State.isArrayOf_alike hZ.alike Ar2.2.1) (g := (mkF m 4 #[rv r0, iv 20, .unset] [(.ref tb)])) rfl rfl (hb hby d31_4) _ ?_
  rw [len_of S2 M2]
  refine XS.aloadN X1.here hx rfl (hb hby d31_5) rfl rfl ?_
  refine st3 _ ?_
  refine XS.ishr X3.here hx rfl (hb hby d31_9) rfl ?_
  refine XS.istoreN X3.here hx rfl (hb hby d31_10) rfl (l' := #[rv r0, iv 20, iv 34]) rfl ?_
  refine XS.iloadN X3.here hx rfl (hb hby d31_11) rfl ?_
  refine XS.iloadN X3.here hx rfl (hb hby d31_12) rfl ?_
  refine XS.isub X3.here hx rfl (hb hby d31_13) rfl ?_
  exact kt
 obtain ⟨fs, hr, hrun, hended, hW, hsame⟩ := X3.leave (v := none) (fun _ => rfl)
 refine ⟨_, _, G4 _ ?_, hrun, hended, _, _, rfl, ?_, ⟨_, rfl⟩, hW, hsame.mono (by decide) (by decide)⟩
 ·skip
  refine XS.ifYes X3.here hx rfl (pc0 := 14) (pc' := 38) rfl (hb hby d31_14) rfl ((if0 _ _).trans (flt (by decide)).2.2.2) (by decide) (by decide) ?_
  exact X3.returnOut hx Bd.returns (hb hby d31_38) hr
 ·show QED20 Z r0 tb kd vd h0 n0 _ T3.heap _
  rw [e3]
  exact ⟨rfl, N0, rfl⟩
theorem d38_0 : decode jdk_68_method_71_code 0 = .ok (.getstatic 18, 3) := by decide +kernel
theorem d38_3 : decode jdk_68_method_71_code 3 = .ok (.ifCond .eq 18, 3) := by decide +kernel
theorem d38_6 : decode jdk_68_method_71_code 6 = .ok (.aload_n 0, 1) := by decide +kernel
theorem d38_7 : decode jdk_68_method_71_code 7 = .ok (.getfield 22, 3) := by decide +kernel
theorem d38_10 : decode jdk_68_method_71_code 10 = .ok (.aload_n 1, 1) := by decide +kernel
theorem d38_11 : decode jdk_68_method_71_code 11 = .ok (.invokevirtual 40, 3) := by decide +kernel
theorem d38_14 : decode jdk_68_method_71_code 14 = .ok (.if_icmp .eq 7, 3) := by decide +kernel
theorem d38_21 : decode jdk_68_method_71_code 21 = .ok (.return_, 1) := by decide +kernel
def Q38 (Z : State) (r0 : Addr) (r1 : Addr) (cst : Int32) (fv : Value) (h0 : Heap) (n0 : Nat) (v : Option Value) (h : Heap) (L : List Loc) : Prop := v = none ∧ Fr n0 L ∧ h = h0
theorem ef_rm38 (m : MethodId) (x0 : Addr) (x1 : Addr) : entryFrame m #[(.ref x0), (.ref x1)] 2 = mkF m 0 #[.val (.ref x0), .val (.ref x1)] [] := by first | (simp [entryFrame, mkF, argsToLocals, Value.category]; done) | rfl
set_option maxRecDepth 65536 in
set_option maxHeartbeats 40000000 in
theorem rm38 (l : Launch) (Z : State) (a0 : Array Value) (hw : ∀ d ∈ tables_1, d.before a0 Z = true) (ws : List Jvm.Cond) (r0 : Addr) (r1 : Addr) (cst : Int32) (fv : Value) (h0 : Heap) (n0 : Nat) (Z0 : n0 ≤ h0.size) (Fc : Fld Z h0 r0 "java/lang/AbstractStringBuilder" "coder" "B" (.int (0 : Int32))) (Ey : Exa Z h0 r1 "java/lang/String") (Fcy : Fld Z h0 r1 "java/lang/String" "coder" "B" (.int (0 : Int32))) (O0 : Old Z n0 h0) (SS : Sts Z cst fv) :
  MetFree l (⟨"java/lang/AbstractStringBuilder", "inflateIfNeededFor", "(Ljava/lang/String;)V"⟩ : MethodName) (head1 (Jvm.Cond.code (⟨"java/lang/AbstractStringBuilder", "inflateIfNeededFor", "(Ljava/lang/String;)V"⟩ : MethodName) jdk_68_method_71_code 2 none :: ws) ({ frames := 1, cells := 0, slots := 0, locals := 13 } : Room)) (fun a U => a = #[(.ref r0), (.ref r1)] ∧ Z.Warmed39 U.vm ∧ U.heap = h0) (fun _ _ _ _ _ => True) (fun _ U o U' => ∃ v L, o = .returned v ∧ Q38 Z r0 r1 cst fv h0 n0 v U'.heap L ∧ FrameEnd U o U' L ({ frames := 1, cells := 0, slots := 0, locals := 13 } : Room).cells ({ frames := 1, cells := 0, slots := 0, locals := 13 } : Room).slots) := by
 refine MetFree.of_bodySF (plainFor_of_name pnc_java_lang_AbstractStringBuilder) hisR ?_
 intro p e s m args below meth c s₁ Bd hml0 hP hK
 obtain ⟨rfl, hZ, hh⟩ := hP
 have hx := Bd.exec
 have hby := Bd.bytes
 have hml : c.maxLocals = 2 := hml0
 have hown : s.vm.findClass "java/lang/AbstractStringBuilder" = some m.cls := findClass_of_methodNamed Bd.named
 have hnm := (name_of_methodNamed Bd.named Bd.method).1
 have X0 : Stand p l e ({ frames := 1, cells := 0, slots := 0, locals := 13 } : Room) s m #[(.ref r0), (.ref r1)] below meth c s₁ [] 0 0 := Stand.of_body Bd
 have e0 : s₁.heap = h0 := by rw [← hh, Bd.state]; rfl
 have N0 := Fr.nil n0
 have kp0 : Keep h0 h0 [] := Keep.refl _ _
 have G0 : ∀ t, Steps p.tables e below (s₁.setTop (mkF m 0 #[rv r0, rv r1] [])) t → Steps p.tables e below (s₁.setTop (entryFrame m #[(.ref r0), (.ref r1)] 2)) t := fun t k => castTop (ef_rm38 m r0 r1) k
 obtain ⟨T1, X1, e1, st1⟩ := getS2 X0 hx hZ hown (host := "") (Or.inl (hq hw 148 rfl)) Via.refl e0 (SS.1.ext O0.2) (g := (mkF m 0 #[rv r0, rv r1] [])) rfl (hb hby d38_0)
 have G2 : ∀ t, Steps p.tables e below (T1.setTop (mkF m 3 #[rv r0, rv r1] [(.int cst)])) t → Steps p.tables e below (s₁.setTop (entryFrame m #[(.ref r0), (.ref r1)] 2)) t := by
  intro t kt
  refine G0 _ ?_
  refine st1 _ ?_
  exact kt
 have hc3_3 : ¬ (cst = (0 : Int32)) := SS.2.1
 obtain ⟨T4, X4, e4, st4⟩ := getF X1 hx hZ hown (host := "") (Or.inl (hq hw 151 rfl)) Via.refl e1 Fc (g := (mkF m 7 #[rv r0, rv r1] [(.ref r0)])) rfl rfl (hb hby d38_7)
 obtain ⟨cq5, kq5, q5a, q5b, q5c⟩ := isOf hZ e4 Ey
 obtain ⟨_, _, ⟨T5, L5, k5, n5⟩, -, X5, ⟨Lc5, hQ5, l5, y5, z5⟩, st5⟩ := X4.virtualBack hx (y := (⟨"java/lang/String", "coder", "()B"⟩ : MethodName)) (z := (⟨"java/lang/String", "coder", "()B"⟩ : MethodName)) hown (mvT hZ (hq hw 209 rfl)) (mvT hZ (hq hw 85 rfl)) (notFace_of_selects (args := #[]) (mvT hZ (hq hw 87 rfl))) (mvT hZ (hq hw 87 rfl)) (mvT hZ (hq hw 86 rfl)) (by decide) (backOf (W := 1) (rm17 l Z a0 hw [] r1 (0 : Int32) cst fv h0 n0 Z0 Fcy O0  SS) hZ (hq hw 88 rfl) (hq hw 6 rfl) (by decide) (by decide)) q5a q5c (g := (mkF m 11 #[rv r0, rv r1] [(.ref r1), (.int (0 : Int32))])) rfl (by rw [hml]; rfl) (Steps.refl _) (argsL := []) (rest := [(.int (0 : Int32))]) (lenOf pd_1 rfl) rfl (by show 2 * 0 + _ ≤ _; exact Nat.le_of_eq rfl) (hb hby d38_11) (fun _ _ => ⟨rfl, e4, (by decide : 0 + 0 ≤ _), (by decide : 0 + 0 ≤ _)⟩)
 dsimp only [Pt.U, Pt.locs, Pt.cells, Pt.slots] at X5 l5 y5 z5 st5 hQ5
 subst l5 y5 z5
 obtain ⟨rfl, N5q, eh5⟩ := hQ5
 have N5 := Fr.app N0 N5q
 have G6 : ∀ t, Steps p.tables e below (T5.setTop (mkF m 14 #[rv r0, rv r1] [(.int (0 : Int32)), (.int (0 : Int32))])) t → Steps p.tables e below (s₁.setTop (entryFrame m #[(.ref r0), (.ref r1)] 2)) t := by
  intro t kt
  refine G2 _ ?_
  refine XS.ifNo X1.here hx rfl (hb hby d38_3) rfl ((if0 _ _).trans (feq hc3_3).1) ?_
  refine XS.aloadN X1.here hx rfl (hb hby d38_6) rfl rfl ?_
  refine st4 _ ?_
  refine XS.aloadN X4.here hx rfl (hb hby d38_10) rfl rfl ?_
  refine st5.trans ?_
  exact kt
 obtain ⟨fs, hr, hrun, hended, hW, hsame⟩ := X5.leave (v := none) (fun _ => rfl)
 refine ⟨_, _, G6 _ ?_, hrun, hended, _, _, rfl, ?_, ⟨_, rfl⟩, hW, hsame.mono (by decide) (by decide)⟩
 ·skip
  refine XS.icmpYes X5.here hx rfl (pc0 := 14) (pc' := 21) rfl (hb hby d38_14) rfl (teq (by decide)).1 (by decide) (by decide) ?_
  exact X5.returnOut hx Bd.returns (hb hby d38_21) hr
 ·show Q38 Z r0 r1 cst fv h0 n0 _ T5.heap _
  rw [eh5]
  exact ⟨rfl, N5, rfl⟩
theorem d39_0 : decode jdk_42_method_147_code 0 = .ok (.aload_n 0, 1) := by decide +kernel
theorem d39_1 : decode jdk_42_method_147_code 1 = .ok (.invokevirtual 335, 3) := by decide +kernel
theorem d39_4 : decode jdk_42_method_147_code 4 = .ok (.iload_n 3, 1) := by decide +kernel
theorem d39_5 : decode jdk_42_method_147_code 5 = .ok (.if_icmp .ne 23, 3) := by decide +kernel
theorem d39_8 : decode jdk_42_method_147_code 8 = .ok (.aload_n 0, 1) := by decide +kernel
theorem d39_9 : decode jdk_42_method_147_code 9 = .ok (.getfield 9, 3) := by decide +kernel
theorem d39_12 : decode jdk_42_method_147_code 12 = .ok (.iconst 0, 1) := by decide +kernel
theorem d39_13 : decode jdk_42_method_147_code 13 = .ok (.aload_n 1, 1) := by decide +kernel
theorem d39_14 : decode jdk_42_method_147_code 14 = .ok (.iload_n 2, 1) := by decide +kernel
theorem d39_15 : decode jdk_42_method_147_code 15 = .ok (.iload_n 3, 1) := by decide +kernel
theorem d39_16 : decode jdk_42_method_147_code 16 = .ok (.ishl, 1) := by decide +kernel
theorem d39_17 : decode jdk_42_method_147_code 17 = .ok (.aload_n 0, 1) := by decide +kernel
theorem d39_18 : decode jdk_42_method_147_code 18 = .ok (.getfield 9, 3) := by decide +kernel
theorem d39_21 : decode jdk_42_method_147_code 21 = .ok (.arraylength, 1) := by decide +kernel
theorem d39_22 : decode jdk_42_method_147_code 22 = .ok (.invokestatic 212, 3) := by decide +kernel
theorem d39_25 : decode jdk_42_method_147_code 25 = .ok (.goto 18, 3) := by decide +kernel
theorem d39_43 : decode jdk_42_method_147_code 43 = .ok (.return_, 1) := by decide +kernel
def QGB18 (Z : State) (r0 : Addr) (r1 : Addr) (ta : Addr) (kk : ClassId) (vs : List Value) (kd : ClassId) (vd : List Value) (cst : Int32) (fv : Value) (h0 : Heap) (n0 : Nat) (v : Option Value) (h : Heap) (L : List Loc) : Prop := v = none ∧ Fr n0 L ∧ Keep h0 h [r1] ∧ Arv Z h r1 kd .byte (34 : Int32) (own_cp vd vs (0 : Int32) (18 : Int32)) (.int (0 : Int32))
theorem ef_rmGB18 (m : MethodId) (x0 : Addr) (x1 : Addr) (x2 : Int32) (x3 : Int32) : entryFrame m #[(.ref x0), (.ref x1), (.int x2), (.int x3)] 4 = mkF m 0 #[.val (.ref x0), .val (.ref x1), .val (.int x2), .val (.int x3)] [] := by first | (simp [entryFrame, mkF, argsToLocals, Value.category]; done) | rfl
set_option maxRecDepth 65536 in
set_option maxHeartbeats 40000000 in
theorem rmGB18 (l : Launch) (Z : State) (a0 : Array Value) (hw : ∀ d ∈ tables_1, d.before a0 Z = true) (ws : List Jvm.Cond) (r0 : Addr) (r1 : Addr) (ta : Addr) (kk : ClassId) (vs : List Value) (kd : ClassId) (vd : List Value) (cst : Int32) (fv : Value) (h0 : Heap) (n0 : Nat) (Z0 : n0 ≤ h0.size) (Ey : Exa Z h0 r0 "java/lang/String") (Fcy : Fld Z h0 r0 "java/lang/String" "coder" "B" (.int (0 : Int32))) (Fvy : Fld Z h0 r0 "java/lang/String" "value" "[B" (.ref ta)) (V0 : Arv Z h0 ta kk .byte (18 : Int32) vs (.int (0 : Int32))) (Vd : Arv Z h0 r1 kd .byte (34 : Int32) vd (.int (0 : Int32))) (O0 : Old Z n0 h0) (g_r1 : n0 ≤ r1) (dq_01 : r0 ≠ r1) (dq_a1 : ta ≠ r1) (hvl : vd.length = 34) (SS : Sts Z cst fv) :
  MetFree l (⟨"java/lang/String", "getBytes", "([BIB)V"⟩ : MethodName) (head1 (Jvm.Cond.code (⟨"java/lang/String", "getBytes", "([BIB)V"⟩ : MethodName) jdk_42_method_147_code 4 none :: ws) ({ frames := 1, cells := 0, slots := 0, locals := 18 } : Room)) (fun a U => a = #[(.ref r0), (.ref r1), (.int (0 : Int32)), (.int (0 : Int32))] ∧ Z.Warmed39 U.vm ∧ U.heap = h0) (fun _ _ _ _ _ => True) (fun _ U o U' => ∃ v L, o = .returned v ∧ QGB18 Z r0 r1 ta kk vs kd vd cst fv h0 n0 v U'.heap L ∧ FrameEnd U o U' L ({ frames := 1, cells := 0, slots := 0, locals := 18 } : Room).cells ({ frames := 1, cells := 0, slots := 0, locals := 18 } : Room).slots) := by
 refine MetFree.of_bodySF (plainFor_of_name pnc_java_lang_String) hisR ?_
 intro p e s m args below meth c s₁ Bd hml0 hP hK
 obtain ⟨rfl, hZ, hh⟩ := hP
 have hx := Bd.exec
 have hby := Bd.bytes
 have hml : c.maxLocals = 4 := hml0
 have hown : s.vm.findClass "java/lang/String" = some m.cls := findClass_of_methodNamed Bd.named
 have hnm := (name_of_methodNamed Bd.named Bd.method).1
 have X0 : Stand p l e ({ frames := 1, cells := 0, slots := 0, locals := 18 } : Room) s m #[(.ref r0), (.ref r1), (.int (0 : Int32)), (.int (0 : Int32))] below meth c s₁ [] 0 0 := Stand.of_body Bd
 have e0 : s₁.heap = h0 := by rw [← hh, Bd.state]; rfl
 have N0 := Fr.nil n0
 have kp0 : Keep h0 h0 [r1] := Keep.refl _ _
 have G0 : ∀ t, Steps p.tables e below (s₁.setTop (mkF m 0 #[rv r0, rv r1, iv 0, iv 0] [])) t → Steps p.tables e below (s₁.setTop (entryFrame m #[(.ref r0), (.ref r1), (.int (0 : Int32)), (.int (0 : Int32))] 4)) t := fun t k => castTop (ef_rmGB18 m r0 r1 (0 : Int32) (0 : Int32)) k
 obtain ⟨cq1, kq1, q1a, q1b, q1c⟩ := isOf hZ e0 Ey
 obtain ⟨_, _, ⟨T1, L1, k1, n1⟩, -, X1, ⟨Lc1, hQ1, l1, y1, z1⟩, st1⟩ := X0.virtualBack hx (y := (⟨"java/lang/String", "coder", "()B"⟩ : MethodName)) (z := (⟨"java/lang/String", "coder", "()B"⟩ : MethodName)) hown (mvT hZ (hq hw 84 rfl)) (mvT hZ (hq hw 85 rfl)) (notFace_of_selects (args := #[]) (mvT hZ (hq hw 87 rfl))) (mvT hZ (hq hw 87 rfl)) (mvT hZ (hq hw 86 rfl)) (by decide) (backOf (W := 0) (rm17 l Z a0 hw [] r0 (0 : Int32) cst fv h0 n0 Z0 Fcy O0  SS) hZ (hq hw 88 rfl) (hq hw 6 rfl) (by decide) (by decide)) q1a q1c (g := (mkF m 1 #[rv r0, rv r1, iv 0, iv 0] [(.ref r0)])) rfl (by rw [hml]; rfl) (Steps.refl _) (argsL := []) (rest := []) (lenOf pd_1 rfl) rfl (by show 2 * 0 + _ ≤ _; exact Nat.le_of_eq rfl) (hb hby d39_1) (fun _ _ => ⟨rfl, e0, (by decide : 0 + 0 ≤ _), (by decide : 0 + 0 ≤ _)⟩)
 dsimp only [Pt.U, Pt.locs, Pt.cells, Pt.slots] at X1 l1 y1 z1 st1 hQ1
 subst l1 y1 z1
 obtain ⟨rfl, N1q, eh1⟩ := hQ1
 have N1 := Fr.app N0 N1q
 have G2 : ∀ t, Steps p.tables e below (T1.setTop (mkF m 5 #[rv r0, rv r1, iv 0, iv 0] [(.int (0 : Int32)), (.int (0 : Int32))])) t → Steps p.tables e below (s₁.setTop (entryFrame m #[(.ref r0), (.ref r1), (.int (0 : Int32)), (.int (0 : Int32))] 4)) t := by
  intro t kt
  refine G0 _ ?_
  refine XS.aloadN X0.here hx rfl (hb hby d39_0) rfl rfl ?_
  refine st1.trans ?_
  refine XS.iloadN X1.here hx rfl (hb hby d39_4) rfl ?_
  exact kt
 obtain ⟨T3, X3, e3, st3⟩ := getF X1 hx hZ hown (host := "") (Or.inl (hq hw 64 rfl)) Via.refl eh1 Fvy (g := (mkF m 9 #[rv r0, rv r1, iv 0, iv 0] [(.ref r0)])) rfl rfl (hb hby d39_9)
 obtain ⟨T4, X4, e4, st4⟩ := getF X3 hx hZ hown (host := "") (Or.inl (hq hw 64 rfl)) Via.refl e3 Fvy (g := (mkF m 18 #[rv r0, rv r1, iv 0, iv 0] [(.ref r0), (.int (0 : Int32)), (.ref r1), (.int (0 : Int32)), (.ref ta)])) rfl rfl (hb hby d39_18)
 obtain ⟨cl5, Ar5, q5, S5, M5, H5, G5⟩ := id V0
 obtain ⟨T6, h6, L6, X6, e6, N6, K6, V6, st6⟩ := cpA X4 hx hZ hown (hq hw 215 rfl) (hq hw 198 rfl) (hq hw 196 rfl) (hq hw 197 rfl) e4 V0 Vd (Or.inl ⟨rfl, rfl⟩) (sp := (0 : Int32)) (dp := (0 : Int32)) (nn := (18 : Int32)) (by decide) (by decide) (by decide) (by decide) (by decide) rfl (by rw [hvl]; decide) N1 g_r1 (g := (mkF m 22 #[rv r0, rv r1, iv 0, iv 0] [(.int (18 : Int32)), (.int (0 : Int32)), (.ref r1), (.int (0 : Int32)), (.ref ta)])) rfl (by rw [hml]; rfl) rfl (hb hby d39_22) (by decide) (W := 0) (by show 2 * 0 + _ ≤ _; exact Nat.le_of_eq rfl) (by decide)
 have fa7 := Ey.keep K6
 have fa8 := Fcy.keep K6 (ninS dq_01 nin0)
 have fa9 := Fvy.keep K6 (ninS dq_01 nin0)
 have fa10 := V0.keep K6 (ninS dq_a1 nin0)
 have fa11 := O0.keep K6 (allS g_r1 all0)
 have z12 : n0 ≤ h6.size := Nat.le_trans Z0 K6.1
 have kp13 : Keep h0 h6 [r1] := kp0.trans K6 (allS (Or.inl (List.mem_of_getElem? (i := 0) rfl)) all0)
 have fa14 : Arv Z h6 r1 kd .byte (34 : Int32) (own_cp vd vs (0 : Int32) (18 : Int32)) (.int (0 : Int32)) := V6
 obtain ⟨fs, hr, hrun, hended, hW, hsame⟩ := X6.leave (v := none) (fun _ => rfl)
 refine ⟨_, _, G2 _ ?_, hrun, hended, _, _, rfl, ?_, ⟨_, rfl⟩, hW, hsame.mono (by decide) (by decide)⟩
 ·skip
  refine XS.icmpNo X1.here hx rfl (hb hby d39_5) rfl (teq (by decide)).2 ?_
  refine XS.aloadN X1.here hx rfl (hb hby d39_8) rfl rfl ?_
  refine st3 _ ?_
  refine XS.iconst X3.here hx rfl (hb hby d39_12) ?_
  refine XS.aloadN X3.here hx rfl (hb hby d39_13) rfl rfl ?_
  refine XS.iloadN X3.here hx rfl (hb hby d39_14) rfl ?_
  refine XS.iloadN X3.here hx rfl (hb hby d39_15) rfl ?_
  refine XS.ishl X3.here hx rfl (hb hby d39_16) rfl ?_
  refine XS.aloadN X3.here hx rfl (hb hby d39_17) rfl rfl ?_
  refine st4 _ ?_
  refine X4.arraylength hx (by rw [e4]; exact Ar5.1) (State.isArrayOf_alike hZ.alike Ar5.2.1) (g := (mkF m 21 #[rv r0, rv r1, iv 0, iv 0] [(.ref ta), (.int (0 : Int32)), (.ref r1), (.int (0 : Int32)), (.ref ta)])) rfl rfl (hb hby d39_21) _ ?_
  rw [len_of S5 M5]
  refine st6 _ ?_
  refine XS.goto X6.here hx rfl (pc0 := 25) (pc' := 43) rfl (hb hby d39_25) (by decide) (by decide) ?_
  exact X6.returnOut hx Bd.returns (hb hby d39_43) hr
 ·show QGB18 Z r0 r1 ta kk vs kd vd cst fv h0 n0 _ T6.heap _
  rw [e6]
  exact ⟨rfl, N6, kp13, fa14⟩
def QGB19 (Z : State) (r0 : Addr) (r1 : Addr) (ta : Addr) (kk : ClassId) (vs : List Value) (kd : ClassId) (vd : List Value) (cst : Int32) (fv : Value) (h0 : Heap) (n0 : Nat) (v : Option Value) (h : Heap) (L : List Loc) : Prop := v = none ∧ Fr n0 L ∧ Keep h0 h [r1] ∧ Arv Z h r1 kd .byte (34 : Int32) (own_cp vd vs (0 : Int32) (19 : Int32)) (.int (0 : Int32))
theorem ef_rmGB19 (m : MethodId) (x0 : Addr) (x1 : Addr) (x2 : Int32) (x3 : Int32) : entryFrame m #[(.ref x0), (.ref x1), (.int x2), (.int x3)] 4 = mkF m 0 #[.val (.ref x0), .val (.ref x1), .val (.int x2), .val (.int x3)] [] := by first | (simp [entryFrame, mkF, argsToLocals, Value.category]; done) | rfl
set_option maxRecDepth 65536 in
set_option maxHeartbeats 40000000 in
theorem rmGB19 (l : Launch) (Z : State) (a0 : Array Value) (hw : ∀ d ∈ tables_1, d.before a0 Z = true) (ws : List Jvm.Cond) (r0 : Addr) (r1 : Addr) (ta : Addr) (kk : ClassId) (vs : List Value) (kd : ClassId) (vd : List Value) (cst : Int32) (fv : Value) (h0 : Heap) (n0 : Nat) (Z0 : n0 ≤ h0.size) (Ey : Exa Z h0 r0 "java/lang/String") (Fcy : Fld Z h0 r0 "java/lang/String" "coder" "B" (.int (0 : Int32))) (Fvy : Fld Z h0 r0 "java/lang/String" "value" "[B" (.ref ta)) (V0 : Arv Z h0 ta kk .byte (19 : Int32) vs (.int (0 : Int32))) (Vd : Arv Z h0 r1 kd .byte (34 : Int32) vd (.int (0 : Int32))) (O0 : Old Z n0 h0) (g_r1 : n0 ≤ r1) (dq_01 : r0 ≠ r1) (dq_a1 : ta ≠ r1) (hvl : vd.length = 34) (SS : Sts Z cst fv) :
  MetFree l (⟨"java/lang/String", "getBytes", "([BIB)V"⟩ : MethodName) (head1 (Jvm.Cond.code (⟨"java/lang/String", "getBytes", "([BIB)V"⟩ : MethodName) jdk_42_method_147_code 4 none :: ws) ({ frames := 1, cells := 0, slots := 0, locals := 18 } : Room)) (fun a U => a = #[(.ref r0), (.ref r1), (.int (0 : Int32)), (.int (0 : Int32))] ∧ Z.Warmed39 U.vm ∧ U.heap = h0) (fun _ _ _ _ _ => True) (fun _ U o U' => ∃ v L, o = .returned v ∧ QGB19 Z r0 r1 ta kk vs kd vd cst fv h0 n0 v U'.heap L ∧ FrameEnd U o U' L ({ frames := 1, cells := 0, slots := 0, locals := 18 } : Room).cells ({ frames := 1, cells := 0, slots := 0, locals := 18 } : Room).slots) := by
 refine MetFree.of_bodySF (plainFor_of_name pnc_java_lang_String) hisR ?_
 intro p e s m args below meth c s₁ Bd hml0 hP hK
 obtain ⟨rfl, hZ, hh⟩ := hP
 have hx := Bd.exec
 have hby := Bd.bytes
 have hml : c.maxLocals = 4 := hml0
 have hown : s.vm.findClass "java/lang/String" = some m.cls := findClass_of_methodNamed Bd.named
 have hnm := (name_of_methodNamed Bd.named Bd.method).1
 have X0 : Stand p l e ({ frames := 1, cells := 0, slots := 0, locals := 18 } : Room) s m #[(.ref r0), (.ref r1), (.int (0 : Int32)), (.int (0 : Int32))] below meth c s₁ [] 0 0 := Stand.of_body Bd
 have e0 : s₁.heap = h0 := by rw [← hh, Bd.state]; rfl
 have N0 := Fr.nil n0
 have kp0 : Keep h0 h0 [r1] := Keep.refl _ _
 have G0 : ∀ t, Steps p.tables e below (s₁.setTop (mkF m 0 #[rv r0, rv r1, iv 0, iv 0] [])) t → Steps p.tables e below (s₁.setTop (entryFrame m #[(.ref r0), (.ref r1), (.int (0 : Int32)), (.int (0 : Int32))] 4)) t := fun t k => castTop (ef_rmGB19 m r0 r1 (0 : Int32) (0 : Int32)) k
 obtain ⟨cq1, kq1, q1a, q1b, q1c⟩ := isOf hZ e0 Ey
 obtain ⟨_, _, ⟨T1, L1, k1, n1⟩, -, X1, ⟨Lc1, hQ1, l1, y1, z1⟩, st1⟩ := X0.virtualBack hx (y := (⟨"java/lang/String", "coder", "()B"⟩ : MethodName)) (z := (⟨"java/lang/String", "coder", "()B"⟩ : MethodName)) hown (mvT hZ (hq hw 84 rfl)) (mvT hZ (hq hw 85 rfl)) (notFace_of_selects (args := #[]) (mvT hZ (hq hw 87 rfl))) (mvT hZ (hq hw 87 rfl)) (mvT hZ (hq hw 86 rfl)) (by decide) (backOf (W := 0) (rm17 l Z a0 hw [] r0 (0 : Int32) cst fv h0 n0 Z0 Fcy O0  SS) hZ (hq hw 88 rfl) (hq hw 6 rfl) (by decide) (by decide)) q1a q1c (g := (mkF m 1 #[rv r0, rv r1, iv 0, iv 0] [(.ref r0)])) rfl (by rw [hml]; rfl) (Steps.refl _) (argsL := []) (rest := []) (lenOf pd_1 rfl) rfl (by show 2 * 0 + _ ≤ _; exact Nat.le_of_eq rfl) (hb hby d39_1) (fun _ _ => ⟨rfl, e0, (by decide : 0 + 0 ≤ _), (by decide : 0 + 0 ≤ _)⟩)
 dsimp only [Pt.U, Pt.locs, Pt.cells, Pt.slots] at X1 l1 y1 z1 st1 hQ1
 subst l1 y1 z1
 obtain ⟨rfl, N1q, eh1⟩ := hQ1
 have N1 := Fr.app N0 N1q
 have G2 : ∀ t, Steps p.tables e below (T1.setTop (mkF m 5 #[rv r0, rv r1, iv 0, iv 0] [(.int (0 : Int32)), (.int (0 : Int32))])) t → Steps p.tables e below (s₁.setTop (entryFrame m #[(.ref r0), (.ref r1), (.int (0 : Int32)), (.int (0 : Int32))] 4)) t := by
  intro t kt
  refine G0 _ ?_
  refine XS.aloadN X0.here hx rfl (hb hby d39_0) rfl rfl ?_
  refine st1.trans ?_
  refine XS.iloadN X1.here hx rfl (hb hby d39_4) rfl ?_
  exact kt
 obtain ⟨T3, X3, e3, st3⟩ := getF X1 hx hZ hown (host := "") (Or.inl (hq hw 64 rfl)) Via.refl eh1 Fvy (g := (mkF m 9 #[rv r0, rv r1, iv 0, iv 0] [(.ref r0)])) rfl rfl (hb hby d39_9)
 obtain ⟨T4, X4, e4, st4⟩ := getF X3 hx hZ hown (host := "") (Or.inl (hq hw 64 rfl)) Via.refl e3 Fvy (g := (mkF m 18 #[rv r0, rv r1, iv 0, iv 0] [(.ref r0), (.int (0 : Int32)), (.ref r1), (.int (0 : Int32)), (.ref ta)])) rfl rfl (hb hby d39_18)
 obtain ⟨cl5, Ar5, q5, S5, M5, H5, G5⟩ := id V0
 obtain ⟨T6, h6, L6, X6, e6, N6, K6, V6, st6⟩ := cpA X4 hx hZ hown (hq hw 215 rfl) (hq hw 198 rfl) (hq hw 196 rfl) (hq hw 197 rfl) e4 V0 Vd (Or.inl ⟨rfl, rfl⟩) (sp := (0 : Int32)) (dp := (0 : Int32)) (nn := (19 : Int32)) (by decide) (by decide) (by decide) (by decide) (by decide) rfl (by rw [hvl]; decide) N1 g_r1 (g := (mkF m 22 #[rv r0, rv r1, iv 0, iv 0] [(.int (19 : Int32)), (.int (0 : Int32)), (.ref r1), (.int (0 : Int32)), (.ref ta)])) rfl (by rw [hml]; rfl) rfl (hb hby d39_22) (by decide) (W := 0) (by show 2 * 0 + _ ≤ _; exact Nat.le_of_eq rfl) (by decide)
 have fa7 := Ey.keep K6
 have fa8 := Fcy.keep K6 (ninS dq_01 nin0)
 have fa9 := Fvy.keep K6 (ninS dq_01 nin0)
 have fa10 := V0.keep K6 (ninS dq_a1 nin0)
 have fa11 := O0.keep K6 (allS g_r1 all0)
 have z12 : n0 ≤ h6.size := Nat.le_trans Z0 K6.1
 have kp13 : Keep h0 h6 [r1] := kp0.trans K6 (allS (Or.inl (List.mem_of_getElem? (i := 0) rfl)) all0)
 have fa14 : Arv Z h6 r1 kd .byte (34 : Int32) (own_cp vd vs (0 : Int32) (19 : Int32)) (.int (0 : Int32)) := V6
 obtain ⟨fs, hr, hrun, hended, hW, hsame⟩ := X6.leave (v := none) (fun _ => rfl)
 refine ⟨_, _, G2 _ ?_, hrun, hended, _, _, rfl, ?_, ⟨_, rfl⟩, hW, hsame.mono (by decide) (by decide)⟩
 ·skip
  refine XS.icmpNo X1.here hx rfl (hb hby d39_5) rfl (teq (by decide)).2 ?_
  refine XS.aloadN X1.here hx rfl (hb hby d39_8) rfl rfl ?_
  refine st3 _ ?_
  refine XS.iconst X3.here hx rfl (hb hby d39_12) ?_
  refine XS.aloadN X3.here hx rfl (hb hby d39_13) rfl rfl ?_
  refine XS.iloadN X3.here hx rfl (hb hby d39_14) rfl ?_
  refine XS.iloadN X3.here hx rfl (hb hby d39_15) rfl ?_
  refine XS.ishl X3.here hx rfl (hb hby d39_16) rfl ?_
  refine XS.aloadN X3.here hx rfl (hb hby d39_17) rfl rfl ?_
  refine st4 _ ?_
  refine X4.arraylength hx (by rw [e4]; exact Ar5.1) (State.isArrayOf_alike hZ.alike Ar5.2.1) (g := (mkF m 21 #[rv r0, rv r1, iv 0, iv 0] [(.ref ta), (.int (0 : Int32)), (.ref r1), (.int (0 : Int32)), (.ref ta)])) rfl rfl (hb hby d39_21) _ ?_
  rw [len_of S5 M5]
  refine st6 _ ?_
  refine XS.goto X6.here hx rfl (pc0 := 25) (pc' := 43) rfl (hb hby d39_25) (by decide) (by decide) ?_
  exact X6.returnOut hx Bd.returns (hb hby d39_43) hr
 ·show QGB19 Z r0 r1 ta kk vs kd vd cst fv h0 n0 _ T6.heap _
  rw [e6]
  exact ⟨rfl, N6, kp13, fa14⟩
theorem d37_0 : decode jdk_68_method_73_code 0 = .ok (.aload_n 0, 1) := by decide +kernel
theorem d37_1 : decode jdk_68_method_73_code 1 = .ok (.aload_n 2, 1) := by decide +kernel
theorem d37_2 : decode jdk_68_method_73_code 2 = .ok (.invokevirtual 397, 3) := by decide +kernel
theorem pd_17 : parseMethodDescriptor "(Ljava/lang/String;)V" = some ⟨[(.object "java/lang/String")], none⟩ := by decide +kernel
theorem d37_5 : decode jdk_68_method_73_code 5 = .ok (.aload_n 2, 1) := by decide +kernel
theorem d37_6 : decode jdk_68_method_73_code 6 = .ok (.aload_n 0, 1) := by decide +kernel
theorem d37_7 : decode jdk_68_method_73_code 7 = .ok (.getfield 15, 3) := by decide +kernel
theorem d37_10 : decode jdk_68_method_73_code 10 = .ok (.iload_n 1, 1) := by decide +kernel
theorem d37_11 : decode jdk_68_method_73_code 11 = .ok (.aload_n 0, 1) := by decide +kernel
theorem d37_12 : decode jdk_68_method_73_code 12 = .ok (.getfield 22, 3) := by decide +kernel
theorem d37_15 : decode jdk_68_method_73_code 15 = .ok (.invokevirtual 399, 3) := by decide +kernel
theorem pd_18 : parseMethodDescriptor "([BIB)V" = some ⟨[(.array .byte), .int, .byte], none⟩ := by decide +kernel
theorem d37_18 : decode jdk_68_method_73_code 18 = .ok (.return_, 1) := by decide +kernel
def QPS18 (Z : State) (r0 : Addr) (r2 : Addr) (tb : Addr) (kd : ClassId) (vd : List Value) (ta : Addr) (kk : ClassId) (vs : List Value) (cst : Int32) (fv : Value) (h0 : Heap) (n0 : Nat) (v : Option Value) (h : Heap) (L : List Loc) : Prop := v = none ∧ Fr n0 L ∧ Keep h0 h [tb] ∧ Arv Z h tb kd .byte (34 : Int32) (own_cp vd vs (0 : Int32) (18 : Int32)) (.int (0 : Int32))
theorem ef_rmPS18 (m : MethodId) (x0 : Addr) (x1 : Int32) (x2 : Addr) : entryFrame m #[(.ref x0), (.int x1), (.ref x2)] 3 = mkF m 0 #[.val (.ref x0), .val (.int x1), .val (.ref x2)] [] := by first | (simp [entryFrame, mkF, argsToLocals, Value.category]; done) | rfl
set_option maxRecDepth 65536 in
set_option maxHeartbeats 40000000 in
theorem rmPS18 (l : Launch) (Z : State) (a0 : Array Value) (hw : ∀ d ∈ tables_1, d.before a0 Z = true) (ws : List Jvm.Cond) (r0 : Addr) (r2 : Addr) (tb : Addr) (kd : ClassId) (vd : List Value) (ta : Addr) (kk : ClassId) (vs : List Value) (cst : Int32) (fv : Value) (h0 : Heap) (n0 : Nat) (Z0 : n0 ≤ h0.size) (E0 : Exa Z h0 r0 "java/lang/StringBuilder") (Fc : Fld Z h0 r0 "java/lang/AbstractStringBuilder" "coder" "B" (.int (0 : Int32))) (Fv : Fld Z h0 r0 "java/lang/AbstractStringBuilder" "value" "[B" (.ref tb)) (Vd : Arv Z h0 tb kd .byte (34 : Int32) vd (.int (0 : Int32))) (Ey : Exa Z h0 r2 "java/lang/String") (Fcy : Fld Z h0 r2 "java/lang/String" "coder" "B" (.int (0 : Int32))) (Fvy : Fld Z h0 r2 "java/lang/String" "value" "[B" (.ref ta)) (V0 : Arv Z h0 ta kk .byte (18 : Int32) vs (.int (0 : Int32))) (O0 : Old Z n0 h0) (g_tb : n0 ≤ tb) (dq_0b : r0 ≠ tb) (dq_2b : r2 ≠ tb) (dq_ab : ta ≠ tb) (hvl : vd.length = 34) (SS : Sts Z cst fv) :
  MetFree l (⟨"java/lang/AbstractStringBuilder", "putStringAt", "(ILjava/lang/String;)V"⟩ : MethodName) (head1 (Jvm.Cond.code (⟨"java/lang/AbstractStringBuilder", "putStringAt", "(ILjava/lang/String;)V"⟩ : MethodName) jdk_68_method_73_code 3 none :: ws) ({ frames := 2, cells := 0, slots := 0, locals := 33 } : Room)) (fun a U => a = #[(.ref r0), (.int (0 : Int32)), (.ref r2)] ∧ Z.Warmed39 U.vm ∧ U.heap = h0) (fun _ _ _ _ _ => True) (fun _ U o U' => ∃ v L, o = .returned v ∧ QPS18 Z r0 r2 tb kd vd ta kk vs cst fv h0 n0 v U'.heap L ∧ FrameEnd U o U' L ({ frames := 2, cells := 0, slots := 0, locals := 33 } : Room).cells ({ frames := 2, cells := 0, slots := 0, locals := 33 } : Room).slots) := by
 refine MetFree.of_bodySF (plainFor_of_name pnc_java_lang_AbstractStringBuilder) hisR ?_
 intro p e s m args below meth c s₁ Bd hml0 hP hK
 obtain ⟨rfl, hZ, hh⟩ := hP
 have hx := Bd.exec
 have hby := Bd.bytes
 have hml : c.maxLocals = 3 := hml0
 have hown : s.vm.findClass "java/lang/AbstractStringBuilder" = some m.cls := findClass_of_methodNamed Bd.named
 have hnm := (name_of_methodNamed Bd.named Bd.method).1
 have X0 : Stand p l e ({ frames := 2, cells := 0, slots := 0, locals := 33 } : Room) s m #[(.ref r0), (.int (0 : Int32)), (.ref r2)] below meth c s₁ [] 0 0 := Stand.of_body Bd
 have e0 : s₁.heap = h0 := by rw [← hh, Bd.state]; rfl
 have N0 := Fr.nil n0
 have kp0 : Keep h0 h0 [tb] := Keep.refl _ _
 have G0 : ∀ t, Steps p.tables e below (s₁.setTop (mkF m 0 #[rv r0, iv 0, rv r2] [])) t → Steps p.tables e below (s₁.setTop (entryFrame m #[(.ref r0), (.int (0 : Int32)), (.ref r2)] 3)) t := fun t k => castTop (ef_rmPS18 m r0 (0 : Int32) r2) k
 obtain ⟨cq1, kq1, q1a, q1b, q1c⟩ := isOf hZ e0 E0
 obtain ⟨_, _, ⟨T1, L1, k1, n1⟩, -, X1, ⟨Lc1, hQ1, l1, y1, z1⟩, st1⟩ := X0.virtualBack hx (y := (⟨"java/lang/AbstractStringBuilder", "inflateIfNeededFor", "(Ljava/lang/String;)V"⟩ : MethodName)) (z := (⟨"java/lang/AbstractStringBuilder", "inflateIfNeededFor", "(Ljava/lang/String;)V"⟩ : MethodName)) hown (mvT hZ (hq hw 204 rfl)) (own_decl (mvT hZ (hq hw 205 rfl)) (mvT hZ (hq hw 208 rfl))) (notFace_of_selects (args := #[]) (mvT hZ (hq hw 207 rfl))) (mvT hZ (hq hw 207 rfl)) (mvT hZ (hq hw 205 rfl)) (by decide) (backOf (W := 0) (rm38 l Z a0 hw [] r0 r2  cst fv h0 n0 Z0 Fc Ey Fcy O0  SS) hZ (hq hw 208 rfl) (hq hw 145 rfl) (by decide) (by decide)) q1a q1c (g := (mkF m 2 #[rv r0, iv 0, rv r2] [(.ref r2), (.ref r0)])) rfl (by rw [hml]; rfl) (Steps.refl _) (argsL := [(.ref r2)]) (rest := []) (lenOf pd_17 rfl) rfl (by show 2 * 0 + _ ≤ _; exact Nat.le_of_eq rfl) (hb hby d37_2) (fun _ _ => ⟨rfl, e0, (by decide : 0 + 0 ≤ _), (by decide : 0 + 0 ≤ _)⟩)
 dsimp only [Pt.U, Pt.locs, Pt.cells, Pt.slots] at X1 l1 y1 z1 st1 hQ1
 subst l1 y1 z1
 obtain ⟨rfl, N1q, eh1⟩ := hQ1
 have N1 := Fr.app N0 N1q
 obtain ⟨T2, X2, e2, st2⟩ := getF X1 hx hZ hown (host := "") (Or.inl (hq hw 149 rfl)) Via.refl eh1 Fv (g := (mkF m 7 #[rv r0, iv 0, rv r2] [(.ref r0), (.ref r2)])) rfl rfl (hb hby d37_7)
 obtain ⟨T3, X3, e3, st3⟩ := getF X2 hx hZ hown (host := "") (Or.inl (hq hw 151 rfl)) Via.refl e2 Fc (g := (mkF m 12 #[rv r0, iv 0, rv r2] [(.ref r0), (.int (0 : Int32)), (.ref tb), (.ref r2)])) rfl rfl (hb hby d37_12)
 obtain ⟨cq4, kq4, q4a, q4b, q4c⟩ := isOf hZ e3 Ey
 obtain ⟨_, _, ⟨T4, L4, k4, n4⟩, -, X4, ⟨Lc4, hQ4, l4, y4, z4⟩, st4⟩ := X3.virtualBack hx (y := (⟨"java/lang/String", "getBytes", "([BIB)V"⟩ : MethodName)) (z := (⟨"java/lang/String", "getBytes", "([BIB)V"⟩ : MethodName)) hown (mvT hZ (hq hw 210 rfl)) (mvT hZ (hq hw 211 rfl)) (notFace_of_selects (args := #[]) (mvT hZ (hq hw 213 rfl))) (mvT hZ (hq hw 213 rfl)) (mvT hZ (hq hw 212 rfl)) (by decide) (backOf (W := 0) (rmGB18 l Z a0 hw [] r2 tb ta kk vs kd vd cst fv h0 n0 Z0 Ey Fcy Fvy V0 Vd O0 g_tb dq_2b dq_ab hvl SS) hZ (hq hw 214 rfl) (hq hw 6 rfl) (by decide) (by decide)) q4a q4c (g := (mkF m 15 #[rv r0, iv 0, rv r2] [(.int (0 : Int32)), (.int (0 : Int32)), (.ref tb), (.ref r2)])) rfl (by rw [hml]; rfl) (Steps.refl _) (argsL := [(.ref tb), (.int (0 : Int32)), (.int (0 : Int32))]) (rest := []) (lenOf pd_18 rfl) rfl (by show 2 * 0 + _ ≤ _; exact Nat.le_of_eq rfl) (hb hby d37_15) (fun _ _ => ⟨rfl, e3, (by decide : 0 + 0 ≤ _), (by decide : 0 + 0 ≤ _)⟩)
 dsimp only [Pt.U, Pt.locs, Pt.cells, Pt.slots] at X4 l4 y4 z4 st4 hQ4
 subst l4 y4 z4
 obtain ⟨rfl, N4q, K4, V4⟩ := hQ4
 have N4 := Fr.app N1 N4q
 have fa5 := E0.keep K4
 have fa6 := Fc.keep K4 (ninS dq_0b nin0)
 have fa7 := Fv.keep K4 (ninS dq_0b nin0)
 have fa8 := Ey.keep K4
 have fa9 := Fcy.keep K4 (ninS dq_2b nin0)
 have fa10 := Fvy.keep K4 (ninS dq_2b nin0)
 have fa11 := V0.keep K4 (ninS dq_ab nin0)
 have fa12 := O0.keep K4 (allS g_tb all0)
 have z13 : n0 ≤ T4.heap.size := Nat.le_trans Z0 K4.1
 have kp14 : Keep h0 T4.heap [tb] := kp0.trans K4 (allS (Or.inl (List.mem_of_getElem? (i := 0) rfl)) all0)
 obtain ⟨fs, hr, hrun, hended, hW, hsame⟩ := X4.leave (v := none) (fun _ => rfl)
 refine ⟨_, _, G0 _ ?_, hrun, hended, _, _, rfl, ?_, ⟨_, rfl⟩, hW, hsame.mono (by decide) (by decide)⟩
 ·skip
  refine XS.aloadN X0.here hx rfl (hb hby d37_0) rfl rfl ?_
  refine XS.aloadN X0.here hx rfl (hb hby d37_1) rfl rfl ?_
  refine st1.trans ?_
  refine XS.aloadN X1.here hx rfl (hb hby d37_5) rfl rfl ?_
  refine XS.aloadN X1.here hx rfl (hb hby d37_6) rfl rfl ?_
  refine st2 _ ?_
  refine XS.iloadN X2.here hx rfl (hb hby d37_10) rfl ?_
  refine XS.aloadN X2.here hx rfl (hb hby d37_11) rfl rfl ?_
  refine st3 _ ?_
  refine st4.trans ?_
  exact X4.returnOut hx Bd.returns (hb hby d37_18) hr
 ·show QPS18 Z r0 r2 tb kd vd ta kk vs cst fv h0 n0 _ T4.heap _
  exact ⟨rfl, N4, kp14, V4⟩
def QPS19 (Z : State) (r0 : Addr) (r2 : Addr) (tb : Addr) (kd : ClassId) (vd : List Value) (ta : Addr) (kk : ClassId) (vs : List Value) (cst : Int32) (fv : Value) (h0 : Heap) (n0 : Nat) (v : Option Value) (h : Heap) (L : List Loc) : Prop := v = none ∧ Fr n0 L ∧ Keep h0 h [tb] ∧ Arv Z h tb kd .byte (34 : Int32) (own_cp vd vs (0 : Int32) (19 : Int32)) (.int (0 : Int32))
theorem ef_rmPS19 (m : MethodId) (x0 : Addr) (x1 : Int32) (x2 : Addr) : entryFrame m #[(.ref x0), (.int x1), (.ref x2)] 3 = mkF m 0 #[.val (.ref x0), .val (.int x1), .val (.ref x2)] [] := by first | (simp [entryFrame, mkF, argsToLocals, Value.category]; done) | rfl
set_option maxRecDepth 65536 in
set_option maxHeartbeats 40000000 in
theorem rmPS19 (l : Launch) (Z : State) (a0 : Array Value) (hw : ∀ d ∈ tables_1, d.before a0 Z = true) (ws : List Jvm.Cond) (r0 : Addr) (r2 : Addr) (tb : Addr) (kd : ClassId) (vd : List Value) (ta : Addr) (kk : ClassId) (vs : List Value) (cst : Int32) (fv : Value) (h0 : Heap) (n0 : Nat) (Z0 : n0 ≤ h0.size) (E0 : Exa Z h0 r0 "java/lang/StringBuilder") (Fc : Fld Z h0 r0 "java/lang/AbstractStringBuilder" "coder" "B" (.int (0 : Int32))) (Fv : Fld Z h0 r0 "java/lang/AbstractStringBuilder" "value" "[B" (.ref tb)) (Vd : Arv Z h0 tb kd .byte (34 : Int32) vd (.int (0 : Int32))) (Ey : Exa Z h0 r2 "java/lang/String") (Fcy : Fld Z h0 r2 "java/lang/String" "coder" "B" (.int (0 : Int32))) (Fvy : Fld Z h0 r2 "java/lang/String" "value" "[B" (.ref ta)) (V0 : Arv Z h0 ta kk .byte (19 : Int32) vs (.int (0 : Int32))) (O0 : Old Z n0 h0) (g_tb : n0 ≤ tb) (dq_0b : r0 ≠ tb) (dq_2b : r2 ≠ tb) (dq_ab : ta ≠ tb) (hvl : vd.length = 34) (SS : Sts Z cst fv) :
  MetFree l (⟨"java/lang/AbstractStringBuilder", "putStringAt", "(ILjava/lang/String;)V"⟩ : MethodName) (head1 (Jvm.Cond.code (⟨"java/lang/AbstractStringBuilder", "putStringAt", "(ILjava/lang/String;)V"⟩ : MethodName) jdk_68_method_73_code 3 none :: ws) ({ frames := 2, cells := 0, slots := 0, locals := 33 } : Room)) (fun a U => a = #[(.ref r0), (.int (0 : Int32)), (.ref r2)] ∧ Z.Warmed39 U.vm ∧ U.heap = h0) (fun _ _ _ _ _ => True) (fun _ U o U' => ∃ v L, o = .returned v ∧ QPS19 Z r0 r2 tb kd vd ta kk vs cst fv h0 n0 v U'.heap L ∧ FrameEnd U o U' L ({ frames := 2, cells := 0, slots := 0, locals := 33 } : Room).cells ({ frames := 2, cells := 0, slots := 0, locals := 33 } : Room).slots) := by
 refine MetFree.of_bodySF (plainFor_of_name pnc_java_lang_AbstractStringBuilder) hisR ?_
 intro p e s m args below meth c s₁ Bd hml0 hP hK
 obtain ⟨rfl, hZ, hh⟩ := hP
 have hx := Bd.exec
 have hby := Bd.bytes
 have hml : c.maxLocals = 3 := hml0
 have hown : s.vm.findClass "java/lang/AbstractStringBuilder" = some m.cls := findClass_of_methodNamed Bd.named
 have hnm := (name_of_methodNamed Bd.named Bd.method).1
 have X0 : Stand p l e ({ frames := 2, cells := 0, slots := 0, locals := 33 } : Room) s m #[(.ref r0), (.int (0 : Int32)), (.ref r2)] below meth c s₁ [] 0 0 := Stand.of_body Bd
 have e0 : s₁.heap = h0 := by rw [← hh, Bd.state]; rfl
 have N0 := Fr.nil n0
 have kp0 : Keep h0 h0 [tb] := Keep.refl _ _
 have G0 : ∀ t, Steps p.tables e below (s₁.setTop (mkF m 0 #[rv r0, iv 0, rv r2] [])) t → Steps p.tables e below (s₁.setTop (entryFrame m #[(.ref r0), (.int (0 : Int32)), (.ref r2)] 3)) t := fun t k => castTop (ef_rmPS19 m r0 (0 : Int32) r2) k
 obtain ⟨cq1, kq1, q1a, q1b, q1c⟩ := isOf hZ e0 E0
 obtain ⟨_, _, ⟨T1, L1, k1, n1⟩, -, X1, ⟨Lc1, hQ1, l1, y1, z1⟩, st1⟩ := X0.virtualBack hx (y := (⟨"java/lang/AbstractStringBuilder", "inflateIfNeededFor", "(Ljava/lang/String;)V"⟩ : MethodName)) (z := (⟨"java/lang/AbstractStringBuilder", "inflateIfNeededFor", "(Ljava/lang/String;)V"⟩ : MethodName)) hown (mvT hZ (hq hw 204 rfl)) (own_decl (mvT hZ (hq hw 205 rfl)) (mvT hZ (hq hw 208 rfl))) (notFace_of_selects (args := #[]) (mvT hZ (hq hw 207 rfl))) (mvT hZ (hq hw 207 rfl)) (mvT hZ (hq hw 205 rfl)) (by decide) (backOf (W := 0) (rm38 l Z a0 hw [] r0 r2  cst fv h0 n0 Z0 Fc Ey Fcy O0  SS) hZ (hq hw 208 rfl) (hq hw 145 rfl) (by decide) (by decide)) q1a q1c (g := (mkF m 2 #[rv r0, iv 0, rv r2] [(.ref r2), (.ref r0)])) rfl (by rw [hml]; rfl) (Steps.refl _) (argsL := [(.ref r2)]) (rest := []) (lenOf pd_17 rfl) rfl (by show 2 * 0 + _ ≤ _; exact Nat.le_of_eq rfl) (hb hby d37_2) (fun _ _ => ⟨rfl, e0, (by decide : 0 + 0 ≤ _), (by decide : 0 + 0 ≤ _)⟩)
 dsimp only [Pt.U, Pt.locs, Pt.cells, Pt.slots] at X1 l1 y1 z1 st1 hQ1
 subst l1 y1 z1
 obtain ⟨rfl, N1q, eh1⟩ := hQ1
 have N1 := Fr.app N0 N1q
 obtain ⟨T2, X2, e2, st2⟩ := getF X1 hx hZ hown (host := "") (Or.inl (hq hw 149 rfl)) Via.refl eh1 Fv (g := (mkF m 7 #[rv r0, iv 0, rv r2] [(.ref r0), (.ref r2)])) rfl rfl (hb hby d37_7)
 obtain ⟨T3, X3, e3, st3⟩ := getF X2 hx hZ hown (host := "") (Or.inl (hq hw 151 rfl)) Via.refl e2 Fc (g := (mkF m 12 #[rv r0, iv 0, rv r2] [(.ref r0), (.int (0 : Int32)), (.ref tb), (.ref r2)])) rfl rfl (hb hby d37_12)
 obtain ⟨cq4, kq4, q4a, q4b, q4c⟩ := isOf hZ e3 Ey
 obtain ⟨_, _, ⟨T4, L4, k4, n4⟩, -, X4, ⟨Lc4, hQ4, l4, y4, z4⟩, st4⟩ := X3.virtualBack hx (y := (⟨"java/lang/String", "getBytes", "([BIB)V"⟩ : MethodName)) (z := (⟨"java/lang/String", "getBytes", "([BIB)V"⟩ : MethodName)) hown (mvT hZ (hq hw 210 rfl)) (mvT hZ (hq hw 211 rfl)) (notFace_of_selects (args := #[]) (mvT hZ (hq hw 213 rfl))) (mvT hZ (hq hw 213 rfl)) (mvT hZ (hq hw 212 rfl)) (by decide) (backOf (W := 0) (rmGB19 l Z a0 hw [] r2 tb ta kk vs kd vd cst fv h0 n0 Z0 Ey Fcy Fvy V0 Vd O0 g_tb dq_2b dq_ab hvl SS) hZ (hq hw 214 rfl) (hq hw 6 rfl) (by decide) (by decide)) q4a q4c (g := (mkF m 15 #[rv r0, iv 0, rv r2] [(.int (0 : Int32)), (.int (0 : Int32)), (.ref tb), (.ref r2)])) rfl (by rw [hml]; rfl) (Steps.refl _) (argsL := [(.ref tb), (.int (0 : Int32)), (.int (0 : Int32))]) (rest := []) (lenOf pd_18 rfl) rfl (by show 2 * 0 + _ ≤ _; exact Nat.le_of_eq rfl) (hb hby d37_15) (fun _ _ => ⟨rfl, e3, (by decide : 0 + 0 ≤ _), (by decide : 0 + 0 ≤ _)⟩)
 dsimp only [Pt.U, Pt.locs, Pt.cells, Pt.slots] at X4 l4 y4 z4 st4 hQ4
 subst l4 y4 z4
 obtain ⟨rfl, N4q, K4, V4⟩ := hQ4
 have N4 := Fr.app N1 N4q
 have fa5 := E0.keep K4
 have fa6 := Fc.keep K4 (ninS dq_0b nin0)
 have fa7 := Fv.keep K4 (ninS dq_0b nin0)
 have fa8 := Ey.keep K4
 have fa9 := Fcy.keep K4 (ninS dq_2b nin0)
 have fa10 := Fvy.keep K4 (ninS dq_2b nin0)
 have fa11 := V0.keep K4 (ninS dq_ab nin0)
 have fa12 := O0.keep K4 (allS g_tb all0)
 have z13 : n0 ≤ T4.heap.size := Nat.le_trans Z0 K4.1
 have kp14 : Keep h0 T4.heap [tb] := kp0.trans K4 (allS (Or.inl (List.mem_of_getElem? (i := 0) rfl)) all0)
 obtain ⟨fs, hr, hrun, hended, hW, hsame⟩ := X4.leave (v := none) (fun _ => rfl)
 refine ⟨_, _, G0 _ ?_, hrun, hended, _, _, rfl, ?_, ⟨_, rfl⟩, hW, hsame.mono (by decide) (by decide)⟩
 ·skip
  refine XS.aloadN X0.here hx rfl (hb hby d37_0) rfl rfl ?_
  refine XS.aloadN X0.here hx rfl (hb hby d37_1) rfl rfl ?_
  refine st1.trans ?_
  refine XS.aloadN X1.here hx rfl (hb hby d37_5) rfl rfl ?_
  refine XS.aloadN X1.here hx rfl (hb hby d37_6) rfl rfl ?_
  refine st2 _ ?_
  refine XS.iloadN X2.here hx rfl (hb hby d37_10) rfl ?_
  refine XS.aloadN X2.here hx rfl (hb hby d37_11) rfl rfl ?_
  refine st3 _ ?_
  refine st4.trans ?_
  exact X4.returnOut hx Bd.returns (hb hby d37_18) hr
 ·show QPS19 Z r0 r2 tb kd vd ta kk vs cst fv h0 n0 _ T4.heap _
  exact ⟨rfl, N4, kp14, V4⟩
theorem own_hv34 : (own_cp own_z34 own_z16 (0 : Int32) (16 : Int32)).length = 34 := by decide
theorem d30_0 : decode jdk_68_method_22_code 0 = .ok (.aload_n 1, 1) := by decide +kernel
theorem d30_1 : decode jdk_68_method_22_code 1 = .ok (.ifnonnull 8, 3) := by decide +kernel
theorem d30_9 : decode jdk_68_method_22_code 9 = .ok (.aload_n 1, 1) := by decide +kernel
theorem d30_10 : decode jdk_68_method_22_code 10 = .ok (.invokevirtual 32, 3) := by decide +kernel
theorem pd_19 : parseMethodDescriptor "()I" = some ⟨[], some .int⟩ := by decide +kernel
theorem d30_13 : decode jdk_68_method_22_code 13 = .ok (.istore_n 2, 1) := by decide +kernel
theorem d30_14 : decode jdk_68_method_22_code 14 = .ok (.aload_n 0, 1) := by decide +kernel
theorem d30_15 : decode jdk_68_method_22_code 15 = .ok (.aload_n 0, 1) := by decide +kernel
theorem d30_16 : decode jdk_68_method_22_code 16 = .ok (.getfield 79, 3) := by decide +kernel
theorem d30_19 : decode jdk_68_method_22_code 19 = .ok (.iload_n 2, 1) := by decide +kernel
theorem d30_20 : decode jdk_68_method_22_code 20 = .ok (.iadd, 1) := by decide +kernel
theorem d30_21 : decode jdk_68_method_22_code 21 = .ok (.invokevirtual 100, 3) := by decide +kernel
theorem d30_24 : decode jdk_68_method_22_code 24 = .ok (.aload_n 0, 1) := by decide +kernel
theorem d30_25 : decode jdk_68_method_22_code 25 = .ok (.aload_n 0, 1) := by decide +kernel
theorem d30_26 : decode jdk_68_method_22_code 26 = .ok (.getfield 79, 3) := by decide +kernel
theorem d30_29 : decode jdk_68_method_22_code 29 = .ok (.aload_n 1, 1) := by decide +kernel
theorem d30_30 : decode jdk_68_method_22_code 30 = .ok (.invokevirtual 208, 3) := by decide +kernel
theorem pd_20 : parseMethodDescriptor "(ILjava/lang/String;)V" = some ⟨[.int, (.object "java/lang/String")], none⟩ := by decide +kernel
theorem d30_33 : decode jdk_68_method_22_code 33 = .ok (.aload_n 0, 1) := by decide +kernel
theorem d30_34 : decode jdk_68_method_22_code 34 = .ok (.dup, 1) := by decide +kernel
theorem d30_35 : decode jdk_68_method_22_code 35 = .ok (.getfield 79, 3) := by decide +kernel
theorem d30_38 : decode jdk_68_method_22_code 38 = .ok (.iload_n 2, 1) := by decide +kernel
theorem d30_39 : decode jdk_68_method_22_code 39 = .ok (.iadd, 1) := by decide +kernel
theorem d30_40 : decode jdk_68_method_22_code 40 = .ok (.putfield 79, 3) := by decide +kernel
theorem d30_43 : decode jdk_68_method_22_code 43 = .ok (.aload_n 0, 1) := by decide +kernel
theorem d30_44 : decode jdk_68_method_22_code 44 = .ok (.areturn, 1) := by decide +kernel
def QAA18 (Z : State) (r0 : Addr) (r1 : Addr) (tb : Addr) (kd : ClassId) (ta : Addr) (kk : ClassId) (vs : List Value) (cst : Int32) (fv : Value) (h0 : Heap) (n0 : Nat) (v : Option Value) (h : Heap) (L : List Loc) : Prop := v = some (.ref r0) ∧ Fr n0 L ∧ Keep h0 h [r0] ∧ Fld Z h r0 "java/lang/AbstractStringBuilder" "count" "I" (.int (18 : Int32)) ∧ Fld Z h r0 "java/lang/AbstractStringBuilder" "coder" "B" (.int (0 : Int32)) ∧ ∃ (t : Addr) (k : ClassId), Fld Z h r0 "java/lang/AbstractStringBuilder" "value" "[B" (.ref t) ∧ h0.size ≤ t ∧ n0 ≤ t ∧ Arv Z h t k .byte (34 : Int32) (own_cp (own_cp own_z34 own_z16 (0 : Int32) (16 : Int32)) vs (0 : Int32) (18 : Int32)) (.int (0 : Int32))
theorem ef_rmAA18 (m : MethodId) (x0 : Addr) (x1 : Addr) : entryFrame m #[(.ref x0), (.ref x1)] 3 = mkF m 0 #[.val (.ref x0), .val (.ref x1), .unset] [] := by first | (simp [entryFrame, mkF, argsToLocals, Value.category]; done) | rfl
set_option maxRecDepth 65536 in
set_option maxHeartbeats 40000000 in
theorem rmAA18 (l : Launch) (Z : State) (a0 : Array Value) (hw : ∀ d ∈ tables_1, d.before a0 Z = true) (ws : List Jvm.Cond) (r0 : Addr) (r1 : Addr) (tb : Addr) (kd : ClassId) (ta : Addr) (kk : ClassId) (vs : List Value) (cst : Int32) (fv : Value) (h0 : Heap) (n0 : Nat) (Z0 : n0 ≤ h0.size) (E0 : Exa Z h0 r0 "java/lang/StringBuilder") (Fn : Fld Z h0 r0 "java/lang/AbstractStringBuilder" "count" "I" (.int (0 : Int32))) (Fc : Fld Z h0 r0 "java/lang/AbstractStringBuilder" "coder" "B" (.int (0 : Int32))) (Fv : Fld Z h0 r0 "java/lang/AbstractStringBuilder" "value" "[B" (.ref tb)) (Vd : Arv Z h0 tb kd .byte (16 : Int32) own_z16 (.int (0 : Int32))) (Ey : Exa Z h0 r1 "java/lang/String") (Fcy : Fld Z h0 r1 "java/lang/String" "coder" "B" (.int (0 : Int32))) (Fvy : Fld Z h0 r1 "java/lang/String" "value" "[B" (.ref ta)) (V0 : Arv Z h0 ta kk .byte (18 : Int32) vs (.int (0 : Int32))) (O0 : Old Z n0 h0) (g_r0 : n0 ≤ r0) (dq_0b : r0 ≠ tb) (dq_01 : r0 ≠ r1) (dq_0a : r0 ≠ ta) (SS : Sts Z cst fv) :
  MetFree l (⟨"java/lang/AbstractStringBuilder", "append", "(Ljava/lang/String;)Ljava/lang/AbstractStringBuilder;"⟩ : MethodName) (head1 (Jvm.Cond.code (⟨"java/lang/AbstractStringBuilder", "append", "(Ljava/lang/String;)Ljava/lang/AbstractStringBuilder;"⟩ : MethodName) jdk_68_method_22_code 3 (some (.object "java/lang/AbstractStringBuilder")) :: ws) ({ frames := 4, cells := 1, slots := 34, locals := 62 } : Room)) (fun a U => a = #[(.ref r0), (.ref r1)] ∧ Z.Warmed39 U.vm ∧ U.heap = h0) (fun _ _ _ _ _ => True) (fun _ U o U' => ∃ v L, o = .returned v ∧ QAA18 Z r0 r1 tb kd ta kk vs cst fv h0 n0 v U'.heap L ∧ FrameEnd U o U' L ({ frames := 4, cells := 1, slots := 34, locals := 62 } : Room).cells ({ frames := 4, cells := 1, slots := 34, locals := 62 } : Room).slots) := by
 refine MetFree.of_bodySF (plainFor_of_name pnc_java_lang_AbstractStringBuilder) hisR ?_
 intro p e s m args below meth c s₁ Bd hml0 hP hK
 obtain ⟨rfl, hZ, hh⟩ := hP
 have hx := Bd.exec
 have hby := Bd.bytes
 have hml : c.maxLocals = 3 := hml0
 have hown : s.vm.findClass "java/lang/AbstractStringBuilder" = some m.cls := findClass_of_methodNamed Bd.named
 have hnm := (name_of_methodNamed Bd.named Bd.method).1
 have X0 : Stand p l e ({ frames := 4, cells := 1, slots := 34, locals := 62 } : Room) s m #[(.ref r0), (.ref r1)] below meth c s₁ [] 0 0 := Stand.of_body Bd
 have e0 : s₁.heap = h0 := by rw [← hh, Bd.state]; rfl
 have N0 := Fr.nil n0
 have kp0 : Keep h0 h0 [r0] := Keep.refl _ _
 have G0 : ∀ t, Steps p.tables e below (s₁.setTop (mkF m 0 #[rv r0, rv r1, .unset] [])) t → Steps p.tables e below (s₁.setTop (entryFrame m #[(.ref r0), (.ref r1)] 3)) t := fun t k => castTop (ef_rmAA18 m r0 r1) k
 obtain ⟨cq1, kq1, q1a, q1b, q1c⟩ := isOf hZ e0 Ey
 obtain ⟨_, _, ⟨T1, L1, k1, n1⟩, -, X1, ⟨Lc1, hQ1, l1, y1, z1⟩, st1⟩ := X0.virtualBack hx (y := (⟨"java/lang/String", "length", "()I"⟩ : MethodName)) (z := (⟨"java/lang/String", "length", "()I"⟩ : MethodName)) hown (mvT hZ (hq hw 165 rfl)) (mvT hZ (hq hw 80 rfl)) (notFace_of_selects (args := #[]) (mvT hZ (hq hw 82 rfl))) (mvT hZ (hq hw 82 rfl)) (mvT hZ (hq hw 81 rfl)) (by decide) (backOf (W := 0) (rm16 l Z a0 hw [] r1 (0 : Int32) ta kk (18 : Int32) vs (18 : Int32) cst fv h0 n0 Z0 Ey Fcy Fvy V0 O0 (by decide) SS) hZ (hq hw 83 rfl) (hq hw 6 rfl) (by decide) (by decide)) q1a q1c (g := (mkF m 10 #[rv r0, rv r1, .unset] [(.ref r1)])) rfl (by rw [hml]; rfl) (Steps.refl _) (argsL := []) (rest := []) (lenOf pd_19 rfl) rfl (by show 2 * 0 + _ ≤ _; exact Nat.le_of_eq rfl) (hb hby d30_10) (fun _ _ => ⟨rfl, e0, (by decide : 0 + 0 ≤ _), (by decide : 0 + 0 ≤ _)⟩)
 dsimp only [Pt.U, Pt.locs, Pt.cells, Pt.slots] at X1 l1 y1 z1 st1 hQ1
 subst l1 y1 z1
 obtain ⟨rfl, N1q, eh1⟩ := hQ1
 have N1 := Fr.app N0 N1q
 obtain ⟨T2, X2, e2, st2⟩ := getF X1 hx hZ hown (host := "") (Or.inl (hq hw 166 rfl)) Via.refl eh1 Fn (g := (mkF m 16 #[rv r0, rv r1, iv 18] [(.ref r0), (.ref r0)])) rfl rfl (hb hby d30_16)
 obtain ⟨cq3, kq3, q3a, q3b, q3c⟩ := isOf hZ e2 E0
 obtain ⟨_, _, ⟨T3, L3, k3, n3⟩, -, X3, ⟨Lc3, hQ3, l3, y3, z3⟩, st3⟩ := X2.virtualBack hx (y := (⟨"java/lang/AbstractStringBuilder", "ensureCapacityInternal", "(I)V"⟩ : MethodName)) (z := (⟨"java/lang/AbstractStringBuilder", "ensureCapacityInternal", "(I)V"⟩ : MethodName)) hown (mvT hZ (hq hw 168 rfl)) (own_decl (mvT hZ (hq hw 169 rfl)) (mvT hZ (hq hw 172 rfl))) (notFace_of_selects (args := #[]) (mvT hZ (hq hw 171 rfl))) (mvT hZ (hq hw 171 rfl)) (mvT hZ (hq hw 169 rfl)) (by decide) (backOf (W := 0) (rmEC18 l Z a0 hw [] r0 tb kd own_z16 h0 n0 Z0 E0 Fn Fc Fv Vd g_r0 dq_0b) hZ (hq hw 172 rfl) (hq hw 145 rfl) (by decide) (by decide)) q3a q3c (g := (mkF m 21 #[rv r0, rv r1, iv 18] [(.int (18 : Int32)), (.ref r0)])) rfl (by rw [hml]; rfl) (Steps.refl _) (argsL := [(.int (18 : Int32))]) (rest := []) (lenOf pd_13 rfl) rfl (by show 2 * 0 + _ ≤ _; exact Nat.le_of_eq rfl) (hb hby d30_21) (fun _ _ => ⟨rfl, e2, (by decide : 0 + 1 ≤ _), (by decide : 0 + 34 ≤ _)⟩)
 dsimp only [Pt.U, Pt.locs, Pt.cells, Pt.slots] at X3 l3 y3 z3 st3 hQ3
 subst l3 y3 z3
 obtain ⟨rfl, N3q, K3, Fn3, Fc3, tb3, kb3, Fv3, sz3, g_tb3, V3⟩ := hQ3
 have N3 := Fr.app N1 N3q
 have szk3 : h0.size ≤ tb3 := Nat.le_trans kp0.1 sz3
 have ne_r0_tb3 : r0 ≠ tb3 := Nat.ne_of_lt (Nat.lt_of_lt_of_le E0.lt sz3)
 have ne_tb_tb3 : tb ≠ tb3 := Nat.ne_of_lt (Nat.lt_of_lt_of_le Vd.lt sz3)
 have ne_r1_tb3 : r1 ≠ tb3 := Nat.ne_of_lt (Nat.lt_of_lt_of_le Ey.lt sz3)
 have ne_ta_tb3 : ta ≠ tb3 := Nat.ne_of_lt (Nat.lt_of_lt_of_le V0.lt sz3)
 have fa4 := E0.keep K3
 have fa5 := Vd.keep K3 (ninS (Ne.symm dq_0b) nin0)
 have fa6 := Ey.keep K3
 have fa7 := Fcy.keep K3 (ninS (Ne.symm dq_01) nin0)
 have fa8 := Fvy.keep K3 (ninS (Ne.symm dq_01) nin0)
 have fa9 := V0.keep K3 (ninS (Ne.symm dq_0a) nin0)
 have fa10 := O0.keep K3 (allS g_r0 all0)
 have z11 : n0 ≤ T3.heap.size := Nat.le_trans Z0 K3.1
 have kp12 : Keep h0 T3.heap [r0] := kp0.trans K3 (allS (Or.inl (List.mem_of_getElem? (i := 0) rfl)) all0)
 obtain ⟨T13, X13, e13, st13⟩ := getF X3 hx hZ hown (host := "") (Or.inl (hq hw 166 rfl)) Via.refl rfl Fn3 (g := (mkF m 26 #[rv r0, rv r1, iv 18] [(.ref r0), (.ref r0)])) rfl rfl (hb hby d30_26)
 obtain ⟨cq14, kq14, q14a, q14b, q14c⟩ := isOf hZ e13 fa4
 obtain ⟨_, _, ⟨T14, L14, k14, n14⟩, -, X14, ⟨Lc14, hQ14, l14, y14, z14⟩, st14⟩ := X13.virtualBack hx (y := (⟨"java/lang/AbstractStringBuilder", "putStringAt", "(ILjava/lang/String;)V"⟩ : MethodName)) (z := (⟨"java/lang/AbstractStringBuilder", "putStringAt", "(ILjava/lang/String;)V"⟩ : MethodName)) hown (mvT hZ (hq hw 199 rfl)) (own_decl (mvT hZ (hq hw 200 rfl)) (mvT hZ (hq hw 203 rfl))) (notFace_of_selects (args := #[]) (mvT hZ (hq hw 202 rfl))) (mvT hZ (hq hw 202 rfl)) (mvT hZ (hq hw 200 rfl)) (by decide) (backOf (W := 0) (rmPS18 l Z a0 hw [] r0 r1 tb3 kb3 (own_cp own_z34 own_z16 (0 : Int32) (16 : Int32)) ta kk vs cst fv T3.heap n0 z11 fa4 Fc3 Fv3 V3 fa6 fa7 fa8 fa9 fa10 g_tb3 ne_r0_tb3 ne_r1_tb3 ne_ta_tb3 own_hv34 SS) hZ (hq hw 203 rfl) (hq hw 145 rfl) (by decide) (by decide)) q14a q14c (g := (mkF m 30 #[rv r0, rv r1, iv 18] [(.ref r1), (.int (0 : Int32)), (.ref r0)])) rfl (by rw [hml]; rfl) (Steps.refl _) (argsL := [(.int (0 : Int32)), (.ref r1)]) (rest := []) (lenOf pd_20 rfl) rfl (by show 2 * 0 + _ ≤ _; exact Nat.le_of_eq rfl) (hb hby d30_30) (fun _ _ => ⟨rfl, e13, (by decide : 1 + 0 ≤ _), (by decide : 34 + 0 ≤ _)⟩)
 dsimp only [Pt.U, Pt.locs, Pt.cells, Pt.slots] at X14 l14 y14 z14 st14 hQ14
 subst l14 y14 z14
 obtain ⟨rfl, N14q, K14, V14⟩ := hQ14
 have N14 := Fr.app N3 N14q
 have fa15 := fa4.keep K14
 have fa16 := fa5.keep K14 (ninS ne_tb_tb3 nin0)
 have fa17 := fa6.keep K14
 have fa18 := fa7.keep K14 (ninS ne_r1_tb3 nin0)
 have fa19 := fa8.keep K14 (ninS ne_r1_tb3 nin0)
 have fa20 := fa9.keep K14 (ninS ne_ta_tb3 nin0)
 have fa21 := fa10.keep K14 (allS g_tb3 all0)
 have fa22 := Fn3.keep K14 (ninS ne_r0_tb3 nin0)
 have fa23 := Fc3.keep K14 (ninS ne_r0_tb3 nin0)
 have fa24 := Fv3.keep K14 (ninS ne_r0_tb3 nin0)
 have z25 : n0 ≤ T14.heap.size := Nat.le_trans z11 K14.1
 have kp26 : Keep h0 T14.heap [r0] := kp12.trans K14 (allS (Or.inr szk3) all0)
 obtain ⟨T27, X27, e27, st27⟩ := getF X14 hx hZ hown (host := "") (Or.inl (hq hw 166 rfl)) Via.refl rfl fa22 (g := (mkF m 35 #[rv r0, rv r1, iv 18] [(.ref r0), (.ref r0)])) rfl rfl (hb hby d30_35)
 obtain ⟨T28, h28, X28, e28, W28, st28⟩ := putF X27 hx hZ hown (host := "") (Or.inl (hq hw 166 rfl)) Via.refl e27 fa22 fa15 (Or.inl (hq hw 167 rfl)) (hq hw 135 rfl) (ty := .int) (by decide) rfl rfl (g := (mkF m 40 #[rv r0, rv r1, iv 18] [(.int (18 : Int32)), (.ref r0)])) rfl rfl (hb hby d30_40)
 have fa29 := fa15.wr W28
 have fa30 := fa16.other W28 (Ne.symm dq_0b)
 have fa31 := fa17.wr W28
 have fa32 := fa18.other W28 (Or.inl (Ne.symm dq_01))
 have fa33 := fa19.other W28 (Or.inl (Ne.symm dq_01))
 have fa34 := fa20.other W28 (Ne.symm dq_0a)
 have fa35 := fa21.wr W28 g_r0
 have fa36 : Fld Z h28 r0 "java/lang/AbstractStringBuilder" "count" "I" (.int (18 : Int32)) := fa22.same W28
 have fa37 := fa23.other W28 (Or.inr (slot_ne (Or.inl (hq hw 152 rfl)) (Or.inl (hq hw 167 rfl)) (by decide) (t := .byte) (t' := .int) (by decide) (by decide)))
 have fa38 := fa24.other W28 (Or.inr (slot_ne (Or.inl (hq hw 150 rfl)) (Or.inl (hq hw 167 rfl)) (by decide) (t := (.array .byte)) (t' := .int) (by decide) (by decide)))
 have fa39 := V14.other W28 (Ne.symm ne_r0_tb3)
 have z40 : n0 ≤ h28.size := Nat.le_trans z25 (Nat.le_of_eq W28.size.symm)
 have kp41 : Keep h0 h28 [r0] := kp26.wr W28 (Or.inl (List.mem_of_getElem? (i := 0) rfl))
 have N28 := Fr.snoc X28 N14 g_r0
 obtain ⟨fs, hr, hrun, hended, hW, hsame⟩ := X28.leave (v := some (.ref r0)) (fun h => by rw [Bd.returns] at h; cases h)
 refine ⟨_, _, G0 _ ?_, hrun, hended, _, _, rfl, ?_, ⟨_, rfl⟩, hW, hsame.mono (by decide) (by decide)⟩
 ·skip
  refine XS.aloadN X0.here hx rfl (hb hby d30_0) rfl rfl ?_
  refine XS.ifnonnullYes X0.here hx rfl (pc0 := 1) (pc' := 9) rfl (hb hby d30_1) rfl (by decide) (by decide) ?_
  refine XS.aloadN X0.here hx rfl (hb hby d30_9) rfl rfl ?_
  refine st1.trans ?_
  refine XS.istoreN X1.here hx rfl (hb hby d30_13) rfl (l' := #[rv r0, rv r1, iv 18]) rfl ?_
  refine XS.aloadN X1.here hx rfl (hb hby d30_14) rfl rfl ?_
  refine XS.aloadN X1.here hx rfl (hb hby d30_15) rfl rfl ?_
  refine st2 _ ?_
  refine XS.iloadN X2.here hx rfl (hb hby d30_19) rfl ?_
  refine XS.iadd X2.here hx rfl (hb hby d30_20) rfl ?_
  refine st3.trans ?_
  refine XS.aloadN X3.here hx rfl (hb hby d30_24) rfl rfl ?_
  refine XS.aloadN X3.here hx rfl (hb hby d30_25) rfl rfl ?_
  refine st13 _ ?_
  refine XS.aloadN X13.here hx rfl (hb hby d30_29) rfl rfl ?_
  refine st14.trans ?_
  refine XS.aloadN X14.here hx rfl (hb hby d30_33) rfl rfl ?_
  refine XS.dup X14.here hx rfl (hb hby d30_34) rfl rfl ?_
  refine st27 _ ?_
  show Steps p.tables e below (T27.setTop (mkF m 38 #[rv r0, rv r1, iv 18] [(.int (0 : Int32)), (.ref r0)])) _
  refine XS.iloadN X27.here hx rfl (hb hby d30_38) rfl ?_
  refine XS.iadd X27.here hx rfl (hb hby d30_39) rfl ?_
  refine st28 _ ?_
  refine XS.aloadN X28.here hx rfl (hb hby d30_43) rfl rfl ?_
  exact retOut X28 hx Bd.returns rfl (Or.inr (Or.inr (Or.inr (Or.inr ⟨rfl, rfl, rfl⟩)))) (hb hby d30_44) hr
 ·show QAA18 Z r0 r1 tb kd ta kk vs cst fv h0 n0 _ T28.heap _
  rw [e28]
  exact ⟨rfl, N28, kp41, fa36, fa37, tb3, kb3, fa38, szk3, g_tb3, fa39⟩
def QAA19 (Z : State) (r0 : Addr) (r1 : Addr) (tb : Addr) (kd : ClassId) (ta : Addr) (kk : ClassId) (vs : List Value) (cst : Int32) (fv : Value) (h0 : Heap) (n0 : Nat) (v : Option Value) (h : Heap) (L : List Loc) : Prop := v = some (.ref r0) ∧ Fr n0 L ∧ Keep h0 h [r0] ∧ Fld Z h r0 "java/lang/AbstractStringBuilder" "count" "I" (.int (19 : Int32)) ∧ Fld Z h r0 "java/lang/AbstractStringBuilder" "coder" "B" (.int (0 : Int32)) ∧ ∃ (t : Addr) (k : ClassId), Fld Z h r0 "java/lang/AbstractStringBuilder" "value" "[B" (.ref t) ∧ h0.size ≤ t ∧ n0 ≤ t ∧ Arv Z h t k .byte (34 : Int32) (own_cp (own_cp own_z34 own_z16 (0 : Int32) (16 : Int32)) vs (0 : Int32) (19 : Int32)) (.int (0 : Int32))
theorem ef_rmAA19 (m : MethodId) (x0 : Addr) (x1 : Addr) : entryFrame m #[(.ref x0), (.ref x1)] 3 = mkF m 0 #[.val (.ref x0), .val (.ref x1), .unset] [] := by first | (simp [entryFrame, mkF, argsToLocals, Value.category]; done) | rfl
set_option maxRecDepth 65536 in
set_option maxHeartbeats 40000000 in
theorem rmAA19 (l : Launch) (Z : State) (a0 : Array Value) (hw : ∀ d ∈ tables_1, d.before a0 Z = true) (ws : List Jvm.Cond) (r0 : Addr) (r1 : Addr) (tb : Addr) (kd : ClassId) (ta : Addr) (kk : ClassId) (vs : List Value) (cst : Int32) (fv : Value) (h0 : Heap) (n0 : Nat) (Z0 : n0 ≤ h0.size) (E0 : Exa Z h0 r0 "java/lang/StringBuilder") (Fn : Fld Z h0 r0 "java/lang/AbstractStringBuilder" "count" "I" (.int (0 : Int32))) (Fc : Fld Z h0 r0 "java/lang/AbstractStringBuilder" "coder" "B" (.int (0 : Int32))) (Fv : Fld Z h0 r0 "java/lang/AbstractStringBuilder" "value" "[B" (.ref tb)) (Vd : Arv Z h0 tb kd .byte (16 : Int32) own_z16 (.int (0 : Int32))) (Ey : Exa Z h0 r1 "java/lang/String") (Fcy : Fld Z h0 r1 "java/lang/String" "coder" "B" (.int (0 : Int32))) (Fvy : Fld Z h0 r1 "java/lang/String" "value" "[B" (.ref ta)) (V0 : Arv Z h0 ta kk .byte (19 : Int32) vs (.int (0 : Int32))) (O0 : Old Z n0 h0) (g_r0 : n0 ≤ r0) (dq_0b : r0 ≠ tb) (dq_01 : r0 ≠ r1) (dq_0a : r0 ≠ ta) (SS : Sts Z cst fv) :
  MetFree l (⟨"java/lang/AbstractStringBuilder", "append", "(Ljava/lang/String;)Ljava/lang/AbstractStringBuilder;"⟩ : MethodName) (head1 (Jvm.Cond.code (⟨"java/lang/AbstractStringBuilder", "append", "(Ljava/lang/String;)Ljava/lang/AbstractStringBuilder;"⟩ : MethodName) jdk_68_method_22_code 3 (some (.object "java/lang/AbstractStringBuilder")) :: ws) ({ frames := 4, cells := 1, slots := 34, locals := 62 } : Room)) (fun a U => a = #[(.ref r0), (.ref r1)] ∧ Z.Warmed39 U.vm ∧ U.heap = h0) (fun _ _ _ _ _ => True) (fun _ U o U' => ∃ v L, o = .returned v ∧ QAA19 Z r0 r1 tb kd ta kk vs cst fv h0 n0 v U'.heap L ∧ FrameEnd U o U' L ({ frames := 4, cells := 1, slots := 34, locals := 62 } : Room).cells ({ frames := 4, cells := 1, slots := 34, locals := 62 } : Room).slots) := by
 refine MetFree.of_bodySF (plainFor_of_name pnc_java_lang_AbstractStringBuilder) hisR ?_
 intro p e s m args below meth c s₁ Bd hml0 hP hK
 obtain ⟨rfl, hZ, hh⟩ := hP
 have hx := Bd.exec
 have hby := Bd.bytes
 have hml : c.maxLocals = 3 := hml0
 have hown : s.vm.findClass "java/lang/AbstractStringBuilder" = some m.cls := findClass_of_methodNamed Bd.named
 have hnm := (name_of_methodNamed Bd.named Bd.method).1
 have X0 : Stand p l e ({ frames := 4, cells := 1, slots := 34, locals := 62 } : Room) s m #[(.ref r0), (.ref r1)] below meth c s₁ [] 0 0 := Stand.of_body Bd
 have e0 : s₁.heap = h0 := by rw [← hh, Bd.state]; rfl
 have N0 := Fr.nil n0
 have kp0 : Keep h0 h0 [r0] := Keep.refl _ _
 have G0 : ∀ t, Steps p.tables e below (s₁.setTop (mkF m 0 #[rv r0, rv r1, .unset] [])) t → Steps p.tables e below (s₁.setTop (entryFrame m #[(.ref r0), (.ref r1)] 3)) t := fun t k => castTop (ef_rmAA19 m r0 r1) k
 obtain ⟨cq1, kq1, q1a, q1b, q1c⟩ := isOf hZ e0 Ey
 obtain ⟨_, _, ⟨T1, L1, k1, n1⟩, -, X1, ⟨Lc1, hQ1, l1, y1, z1⟩, st1⟩ := X0.virtualBack hx (y := (⟨"java/lang/String", "length", "()I"⟩ : MethodName)) (z := (⟨"java/lang/String", "length", "()I"⟩ : MethodName)) hown (mvT hZ (hq hw 165 rfl)) (mvT hZ (hq hw 80 rfl)) (notFace_of_selects (args := #[]) (mvT hZ (hq hw 82 rfl))) (mvT hZ (hq hw 82 rfl)) (mvT hZ (hq hw 81 rfl)) (by decide) (backOf (W := 0) (rm16 l Z a0 hw [] r1 (0 : Int32) ta kk (19 : Int32) vs (19 : Int32) cst fv h0 n0 Z0 Ey Fcy Fvy V0 O0 (by decide) SS) hZ (hq hw 83 rfl) (hq hw 6 rfl) (by decide) (by decide)) q1a q1c (g := (mkF m 10 #[rv r0, rv r1, .unset] [(.ref r1)])) rfl (by rw [hml]; rfl) (Steps.refl _) (argsL := []) (rest := []) (lenOf pd_19 rfl) rfl (by show 2 * 0 + _ ≤ _; exact Nat.le_of_eq rfl) (hb hby d30_10) (fun _ _ => ⟨rfl, e0, (by decide : 0 + 0 ≤ _), (by decide : 0 + 0 ≤ _)⟩)
 dsimp only [Pt.U, Pt.locs, Pt.cells, Pt.slots] at X1 l1 y1 z1 st1 hQ1
 subst l1 y1 z1
 obtain ⟨rfl, N1q, eh1⟩ := hQ1
 have N1 := Fr.app N0 N1q
 obtain ⟨T2, X2, e2, st2⟩ := getF X1 hx hZ hown (host := "") (Or.inl (hq hw 166 rfl)) Via.refl eh1 Fn (g := (mkF m 16 #[rv r0, rv r1, iv 19] [(.ref r0), (.ref r0)])) rfl rfl (hb hby d30_16)
 obtain ⟨cq3, kq3, q3a, q3b, q3c⟩ := isOf hZ e2 E0
 obtain ⟨_, _, ⟨T3, L3, k3, n3⟩, -, X3, ⟨Lc3, hQ3, l3, y3, z3⟩, st3⟩ := X2.virtualBack hx (y := (⟨"java/lang/AbstractStringBuilder", "ensureCapacityInternal", "(I)V"⟩ : MethodName)) (z := (⟨"java/lang/AbstractStringBuilder", "ensureCapacityInternal", "(I)V"⟩ : MethodName)) hown (mvT hZ (hq hw 168 rfl)) (own_decl (mvT hZ (hq hw 169 rfl)) (mvT hZ (hq hw 172 rfl))) (notFace_of_selects (args := #[]) (mvT hZ (hq hw 171 rfl))) (mvT hZ (hq hw 171 rfl)) (mvT hZ (hq hw 169 rfl)) (by decide) (backOf (W := 0) (rmEC19 l Z a0 hw [] r0 tb kd own_z16 h0 n0 Z0 E0 Fn Fc Fv Vd g_r0 dq_0b) hZ (hq hw 172 rfl) (hq hw 145 rfl) (by decide) (by decide)) q3a q3c (g := (mkF m 21 #[rv r0, rv r1, iv 19] [(.int (19 : Int32)), (.ref r0)])) rfl (by rw [hml]; rfl) (Steps.refl _) (argsL := [(.int (19 : Int32))]) (rest := []) (lenOf pd_13 rfl) rfl (by show 2 * 0 + _ ≤ _; exact Nat.le_of_eq rfl) (hb hby d30_21) (fun _ _ => ⟨rfl, e2, (by decide : 0 + 1 ≤ _), (by decide : 0 + 34 ≤ _)⟩)
 dsimp only [Pt.U, Pt.locs, Pt.cells, Pt.slots] at X3 l3 y3 z3 st3 hQ3
 subst l3 y3 z3
 obtain ⟨rfl, N3q, K3, Fn3, Fc3, tb3, kb3, Fv3, sz3, g_tb3, V3⟩ := hQ3
 have N3 := Fr.app N1 N3q
 have szk3 : h0.size ≤ tb3 := Nat.le_trans kp0.1 sz3
 have ne_r0_tb3 : r0 ≠ tb3 := Nat.ne_of_lt (Nat.lt_of_lt_of_le E0.lt sz3)
 have ne_tb_tb3 : tb ≠ tb3 := Nat.ne_of_lt (Nat.lt_of_lt_of_le Vd.lt sz3)
 have ne_r1_tb3 : r1 ≠ tb3 := Nat.ne_of_lt (Nat.lt_of_lt_of_le Ey.lt sz3)
 have ne_ta_tb3 : ta ≠ tb3 := Nat.ne_of_lt (Nat.lt_of_lt_of_le V0.lt sz3)
 have fa4 := E0.keep K3
 have fa5 := Vd.keep K3 (ninS (Ne.symm dq_0b) nin0)
 have fa6 := Ey.keep K3
 have fa7 := Fcy.keep K3 (ninS (Ne.symm dq_01) nin0)
 have fa8 := Fvy.keep K3 (ninS (Ne.symm dq_01) nin0)
 have fa9 := V0.keep K3 (ninS (Ne.symm dq_0a) nin0)
 have fa10 := O0.keep K3 (allS g_r0 all0)
 have z11 : n0 ≤ T3.heap.size := Nat.le_trans Z0 K3.1
 have kp12 : Keep h0 T3.heap [r0] := kp0.trans K3 (allS (Or.inl (List.mem_of_getElem? (i := 0) rfl)) all0)
 obtain ⟨T13, X13, e13, st13⟩ := getF X3 hx hZ hown (host := "") (Or.inl (hq hw 166 rfl)) Via.refl rfl Fn3 (g := (mkF m 26 #[rv r0, rv r1, iv 19] [(.ref r0), (.ref r0)])) rfl rfl (hb hby d30_26)
 obtain ⟨cq14, kq14, q14a, q14b, q14c⟩ := isOf hZ e13 fa4
 obtain ⟨_, _, ⟨T14, L14, k14, n14⟩, -, X14, ⟨Lc14, hQ14, l14, y14, z14⟩, st14⟩ := X13.virtualBack hx (y := (⟨"java/lang/AbstractStringBuilder", "putStringAt", "(ILjava/lang/String;)V"⟩ : MethodName)) (z := (⟨"java/lang/AbstractStringBuilder", "putStringAt", "(ILjava/lang/String;)V"⟩ : MethodName)) hown (mvT hZ (hq hw 199 rfl)) (own_decl (mvT hZ (hq hw 200 rfl)) (mvT hZ (hq hw 203 rfl))) (notFace_of_selects (args := #[]) (mvT hZ (hq hw 202 rfl))) (mvT hZ (hq hw 202 rfl)) (mvT hZ (hq hw 200 rfl)) (by decide) (backOf (W := 0) (rmPS19 l Z a0 hw [] r0 r1 tb3 kb3 (own_cp own_z34 own_z16 (0 : Int32) (16 : Int32)) ta kk vs cst fv T3.heap n0 z11 fa4 Fc3 Fv3 V3 fa6 fa7 fa8 fa9 fa10 g_tb3 ne_r0_tb3 ne_r1_tb3 ne_ta_tb3 own_hv34 SS) hZ (hq hw 203 rfl) (hq hw 145 rfl) (by decide) (by decide)) q14a q14c (g := (mkF m 30 #[rv r0, rv r1, iv 19] [(.ref r1), (.int (0 : Int32)), (.ref r0)])) rfl (by rw [hml]; rfl) (Steps.refl _) (argsL := [(.int (0 : Int32)), (.ref r1)]) (rest := []) (lenOf pd_20 rfl) rfl (by show 2 * 0 + _ ≤ _; exact Nat.le_of_eq rfl) (hb hby d30_30) (fun _ _ => ⟨rfl, e13, (by decide : 1 + 0 ≤ _), (by decide : 34 + 0 ≤ _)⟩)
 dsimp only [Pt.U, Pt.locs, Pt.cells, Pt.slots] at X14 l14 y14 z14 st14 hQ14
 subst l14 y14 z14
 obtain ⟨rfl, N14q, K14, V14⟩ := hQ14
 have N14 := Fr.app N3 N14q
 have fa15 := fa4.keep K14
 have fa16 := fa5.keep K14 (ninS ne_tb_tb3 nin0)
 have fa17 := fa6.keep K14
 have fa18 := fa7.keep K14 (ninS ne_r1_tb3 nin0)
 have fa19 := fa8.keep K14 (ninS ne_r1_tb3 nin0)
 have fa20 := fa9.keep K14 (ninS ne_ta_tb3 nin0)
 have fa21 := fa10.keep K14 (allS g_tb3 all0)
 have fa22 := Fn3.keep K14 (ninS ne_r0_tb3 nin0)
 have fa23 := Fc3.keep K14 (ninS ne_r0_tb3 nin0)
 have fa24 := Fv3.keep K14 (ninS ne_r0_tb3 nin0)
 have z25 : n0 ≤ T14.heap.size := Nat.le_trans z11 K14.1
 have kp26 : Keep h0 T14.heap [r0] := kp12.trans K14 (allS (Or.inr szk3) all0)
 obtain ⟨T27, X27, e27, st27⟩ := getF X14 hx hZ hown (host := "") (Or.inl (hq hw 166 rfl)) Via.refl rfl fa22 (g := (mkF m 35 #[rv r0, rv r1, iv 19] [(.ref r0), (.ref r0)])) rfl rfl (hb hby d30_35)
 obtain ⟨T28, h28, X28, e28, W28, st28⟩ := putF X27 hx hZ hown (host := "") (Or.inl (hq hw 166 rfl)) Via.refl e27 fa22 fa15 (Or.inl (hq hw 167 rfl)) (hq hw 135 rfl) (ty := .int) (by decide) rfl rfl (g := (mkF m 40 #[rv r0, rv r1, iv 19] [(.int (19 : Int32)), (.ref r0)])) rfl rfl (hb hby d30_40)
 have fa29 := fa15.wr W28
 have fa30 := fa16.other W28 (Ne.symm dq_0b)
 have fa31 := fa17.wr W28
 have fa32 := fa18.other W28 (Or.inl (Ne.symm dq_01))
 have fa33 := fa19.other W28 (Or.inl (Ne.symm dq_01))
 have fa34 := fa20.other W28 (Ne.symm dq_0a)
 have fa35 := fa21.wr W28 g_r0
 have fa36 : Fld Z h28 r0 "java/lang/AbstractStringBuilder" "count" "I" (.int (19 : Int32)) := fa22.same W28
 have fa37 := fa23.other W28 (Or.inr (slot_ne (Or.inl (hq hw 152 rfl)) (Or.inl (hq hw 167 rfl)) (by decide) (t := .byte) (t' := .int) (by decide) (by decide)))
 have fa38 := fa24.other W28 (Or.inr (slot_ne (Or.inl (hq hw 150 rfl)) (Or.inl (hq hw 167 rfl)) (by decide) (t := (.array .byte)) (t' := .int) (by decide) (by decide)))
 have fa39 := V14.other W28 (Ne.symm ne_r0_tb3)
 have z40 : n0 ≤ h28.size := Nat.le_trans z25 (Nat.le_of_eq W28.size.symm)
 have kp41 : Keep h0 h28 [r0] := kp26.wr W28 (Or.inl (List.mem_of_getElem? (i := 0) rfl))
 have N28 := Fr.snoc X28 N14 g_r0
 obtain ⟨fs, hr, hrun, hended, hW, hsame⟩ := X28.leave (v := some (.ref r0)) (fun h => by rw [Bd.returns] at h; cases h)
 refine ⟨_, _, G0 _ ?_, hrun, hended, _, _, rfl, ?_, ⟨_, rfl⟩, hW, hsame.mono (by decide) (by decide)⟩
 ·skip
  refine XS.aloadN X0.here hx rfl (hb hby d30_0) rfl rfl ?_
  refine XS.ifnonnullYes X0.here hx rfl (pc0 := 1) (pc' := 9) rfl (hb hby d30_1) rfl (by decide) (by decide) ?_
  refine XS.aloadN X0.here hx rfl (hb hby d30_9) rfl rfl ?_
  refine st1.trans ?_
  refine XS.istoreN X1.here hx rfl (hb hby d30_13) rfl (l' := #[rv r0, rv r1, iv 19]) rfl ?_
  refine XS.aloadN X1.here hx rfl (hb hby d30_14) rfl rfl ?_
  refine XS.aloadN X1.here hx rfl (hb hby d30_15) rfl rfl ?_
  refine st2 _ ?_
  refine XS.iloadN X2.here hx rfl (hb hby d30_19) rfl ?_
  refine XS.iadd X2.here hx rfl (hb hby d30_20) rfl ?_
  refine st3.trans ?_
  refine XS.aloadN X3.here hx rfl (hb hby d30_24) rfl rfl ?_
  refine XS.aloadN X3.here hx rfl (hb hby d30_25) rfl rfl ?_
  refine st13 _ ?_
  refine XS.aloadN X13.here hx rfl (hb hby d30_29) rfl rfl ?_
  refine st14.trans ?_
  refine XS.aloadN X14.here hx rfl (hb hby d30_33) rfl rfl ?_
  refine XS.dup X14.here hx rfl (hb hby d30_34) rfl rfl ?_
  refine st27 _ ?_
  show Steps p.tables e below (T27.setTop (mkF m 38 #[rv r0, rv r1, iv 19] [(.int (0 : Int32)), (.ref r0)])) _
  refine XS.iloadN X27.here hx rfl (hb hby d30_38) rfl ?_
  refine XS.iadd X27.here hx rfl (hb hby d30_39) rfl ?_
  refine st28 _ ?_
  refine XS.aloadN X28.here hx rfl (hb hby d30_43) rfl rfl ?_
  exact retOut X28 hx Bd.returns rfl (Or.inr (Or.inr (Or.inr (Or.inr ⟨rfl, rfl, rfl⟩)))) (hb hby d30_44) hr
 ·show QAA19 Z r0 r1 tb kd ta kk vs cst fv h0 n0 _ T28.heap _
  rw [e28]
  exact ⟨rfl, N28, kp41, fa36, fa37, tb3, kb3, fa38, szk3, g_tb3, fa39⟩
theorem d29_0 : decode jdk_67_method_7_code 0 = .ok (.aload_n 0, 1) := by decide +kernel
theorem d29_1 : decode jdk_67_method_7_code 1 = .ok (.aload_n 1, 1) := by decide +kernel
theorem d29_2 : decode jdk_67_method_7_code 2 = .ok (.invokespecial 29, 3) := by decide +kernel
theorem pd_21 : parseMethodDescriptor "(Ljava/lang/String;)Ljava/lang/AbstractStringBuilder;" = some ⟨[(.object "java/lang/String")], some (.object "java/lang/AbstractStringBuilder")⟩ := by decide +kernel
theorem d29_5 : decode jdk_67_method_7_code 5 = .ok (.pop, 1) := by decide +kernel
theorem d29_6 : decode jdk_67_method_7_code 6 = .ok (.aload_n 0, 1) := by decide +kernel
theorem d29_7 : decode jdk_67_method_7_code 7 = .ok (.areturn, 1) := by decide +kernel
def QAB18 (Z : State) (r0 : Addr) (r1 : Addr) (tb : Addr) (kd : ClassId) (ta : Addr) (kk : ClassId) (vs : List Value) (cst : Int32) (fv : Value) (h0 : Heap) (n0 : Nat) (v : Option Value) (h : Heap) (L : List Loc) : Prop := v = some (.ref r0) ∧ Fr n0 L ∧ Keep h0 h [r0] ∧ Fld Z h r0 "java/lang/AbstractStringBuilder" "count" "I" (.int (18 : Int32)) ∧ Fld Z h r0 "java/lang/AbstractStringBuilder" "coder" "B" (.int (0 : Int32)) ∧ ∃ (t : Addr) (k : ClassId), Fld Z h r0 "java/lang/AbstractStringBuilder" "value" "[B" (.ref t) ∧ h0.size ≤ t ∧ n0 ≤ t ∧ Arv Z h t k .byte (34 : Int32) (own_cp (own_cp own_z34 own_z16 (0 : Int32) (16 : Int32)) vs (0 : Int32) (18 : Int32)) (.int (0 : Int32))
theorem ef_rmAB18 (m : MethodId) (x0 : Addr) (x1 : Addr) : entryFrame m #[(.ref x0), (.ref x1)] 2 = mkF m 0 #[.val (.ref x0), .val (.ref x1)] [] := by first | (simp [entryFrame, mkF, argsToLocals, Value.category]; done) | rfl
set_option maxRecDepth 65536 in
set_option maxHeartbeats 40000000 in
theorem rmAB18 (l : Launch) (Z : State) (a0 : Array Value) (hw : ∀ d ∈ tables_1, d.before a0 Z = true) (ws : List Jvm.Cond) (r0 : Addr) (r1 : Addr) (tb : Addr) (kd : ClassId) (ta : Addr) (kk : ClassId) (vs : List Value) (cst : Int32) (fv : Value) (h0 : Heap) (n0 : Nat) (Z0 : n0 ≤ h0.size) (E0 : Exa Z h0 r0 "java/lang/StringBuilder") (Fn : Fld Z h0 r0 "java/lang/AbstractStringBuilder" "count" "I" (.int (0 : Int32))) (Fc : Fld Z h0 r0 "java/lang/AbstractStringBuilder" "coder" "B" (.int (0 : Int32))) (Fv : Fld Z h0 r0 "java/lang/AbstractStringBuilder" "value" "[B" (.ref tb)) (Vd : Arv Z h0 tb kd .byte (16 : Int32) own_z16 (.int (0 : Int32))) (Ey : Exa Z h0 r1 "java/lang/String") (Fcy : Fld Z h0 r1 "java/lang/String" "coder" "B" (.int (0 : Int32))) (Fvy : Fld Z h0 r1 "java/lang/String" "value" "[B" (.ref ta)) (V0 : Arv Z h0 ta kk .byte (18 : Int32) vs (.int (0 : Int32))) (O0 : Old Z n0 h0) (g_r0 : n0 ≤ r0) (dq_0b : r0 ≠ tb) (dq_01 : r0 ≠ r1) (dq_0a : r0 ≠ ta) (SS : Sts Z cst fv) :
  MetFree l (⟨"java/lang/StringBuilder", "append", "(Ljava/lang/String;)Ljava/lang/StringBuilder;"⟩ : MethodName) (head1 (Jvm.Cond.code (⟨"java/lang/StringBuilder", "append", "(Ljava/lang/String;)Ljava/lang/StringBuilder;"⟩ : MethodName) jdk_67_method_7_code 2 (some (.object "java/lang/StringBuilder")) :: ws) ({ frames := 5, cells := 1, slots := 34, locals := 76 } : Room)) (fun a U => a = #[(.ref r0), (.ref r1)] ∧ Z.Warmed39 U.vm ∧ U.heap = h0) (fun _ _ _ _ _ => True) (fun _ U o U' => ∃ v L, o = .returned v ∧ QAB18 Z r0 r1 tb kd ta kk vs cst fv h0 n0 v U'.heap L ∧ FrameEnd U o U' L ({ frames := 5, cells := 1, slots := 34, locals := 76 } : Room).cells ({ frames := 5, cells := 1, slots := 34, locals := 76 } : Room).slots) := by
 refine MetFree.of_bodySF (plainFor_of_name pnc_java_lang_StringBuilder) hisR ?_
 intro p e s m args below meth c s₁ Bd hml0 hP hK
 obtain ⟨rfl, hZ, hh⟩ := hP
 have hx := Bd.exec
 have hby := Bd.bytes
 have hml : c.maxLocals = 2 := hml0
 have hown : s.vm.findClass "java/lang/StringBuilder" = some m.cls := findClass_of_methodNamed Bd.named
 have hnm := (name_of_methodNamed Bd.named Bd.method).1
 have X0 : Stand p l e ({ frames := 5, cells := 1, slots := 34, locals := 76 } : Room) s m #[(.ref r0), (.ref r1)] below meth c s₁ [] 0 0 := Stand.of_body Bd
 have e0 : s₁.heap = h0 := by rw [← hh, Bd.state]; rfl
 have N0 := Fr.nil n0
 have kp0 : Keep h0 h0 [r0] := Keep.refl _ _
 have G0 : ∀ t, Steps p.tables e below (s₁.setTop (mkF m 0 #[rv r0, rv r1] [])) t → Steps p.tables e below (s₁.setTop (entryFrame m #[(.ref r0), (.ref r1)] 2)) t := fun t k => castTop (ef_rmAB18 m r0 r1) k
 obtain ⟨_, _, ⟨T1, L1, k1, n1⟩, -, X1, ⟨Lc1, hQ1, l1, y1, z1⟩, st1⟩ := superBack X0 hx hZ (y := (⟨"java/lang/AbstractStringBuilder", "append", "(Ljava/lang/String;)Ljava/lang/AbstractStringBuilder;"⟩ : MethodName)) hown (hq hw 160 rfl) (own_same (hq hw 161 rfl) (own_nf (hq hw 229 rfl) (hq hw 228 rfl) rfl) (by decide)) (hq hw 161 rfl) (hq hw 162 rfl) (by decide) (backOf (W := 0) (rmAA18 l Z a0 hw [] r0 r1 tb kd ta kk vs cst fv h0 n0 Z0 E0 Fn Fc Fv Vd Ey Fcy Fvy V0 O0 g_r0 dq_0b dq_01 dq_0a SS) hZ (hq hw 164 rfl) (hq hw 145 rfl) (by decide) (by decide)) e0 (Ins.self E0) (g := (mkF m 2 #[rv r0, rv r1] [(.ref r1), (.ref r0)])) rfl (by rw [hml]; rfl) (hq hw 164 rfl) (argsL := [(.ref r1)]) (rest := []) (lenOf pd_21 rfl) rfl (by show 2 * 0 + _ ≤ _; exact Nat.le_of_eq rfl) (hb hby d29_2) (fun _ _ => ⟨rfl, e0, (by decide : 0 + 1 ≤ _), (by decide : 0 + 34 ≤ _)⟩)
 dsimp only [Pt.U, Pt.locs, Pt.cells, Pt.slots] at X1 l1 y1 z1 st1 hQ1
 subst l1 y1 z1
 obtain ⟨rfl, N1q, K1, Fn1, Fc1, tb1, kb1, Fv1, sz1, g_tb1, V1⟩ := hQ1
 have N1 := Fr.app N0 N1q
 have szk1 : h0.size ≤ tb1 := Nat.le_trans kp0.1 sz1
 have ne_r0_tb1 : r0 ≠ tb1 := Nat.ne_of_lt (Nat.lt_of_lt_of_le E0.lt sz1)
 have ne_tb_tb1 : tb ≠ tb1 := Nat.ne_of_lt (Nat.lt_of_lt_of_le Vd.lt sz1)
 have ne_r1_tb1 : r1 ≠ tb1 := Nat.ne_of_lt (Nat.lt_of_lt_of_le Ey.lt sz1)
 have ne_ta_tb1 : ta ≠ tb1 := Nat.ne_of_lt (Nat.lt_of_lt_of_le V0.lt sz1)
 have fa2 := E0.keep K1
 have fa3 := Vd.keep K1 (ninS (Ne.symm dq_0b) nin0)
 have fa4 := Ey.keep K1
 have fa5 := Fcy.keep K1 (ninS (Ne.symm dq_01) nin0)
 have fa6 := Fvy.keep K1 (ninS (Ne.symm dq_01) nin0)
 have fa7 := V0.keep K1 (ninS (Ne.symm dq_0a) nin0)
 have fa8 := O0.keep K1 (allS g_r0 all0)
 have z9 : n0 ≤ T1.heap.size := Nat.le_trans Z0 K1.1
 have kp10 : Keep h0 T1.heap [r0] := kp0.trans K1 (allS (Or.inl (List.mem_of_getElem? (i := 0) rfl)) all0)
 obtain ⟨fs, hr, hrun, hended, hW, hsame⟩ := X1.leave (v := some (.ref r0)) (fun h => by rw [Bd.returns] at h; cases h)
 refine ⟨_, _, G0 _ ?_, hrun, hended, _, _, rfl, ?_, ⟨_, rfl⟩, hW, hsame.mono (by decide) (by decide)⟩
 ·skip
  refine XS.aloadN X0.here hx rfl (hb hby d29_0) rfl rfl ?_
  refine XS.aloadN X0.here hx rfl (hb hby d29_1) rfl rfl ?_
  refine st1.trans ?_
  refine XS.pop X1.here hx rfl (hb hby d29_5) rfl rfl ?_
  refine XS.aloadN X1.here hx rfl (hb hby d29_6) rfl rfl ?_
  exact retOut X1 hx Bd.returns rfl (Or.inr (Or.inr (Or.inr (Or.inr ⟨rfl, rfl, rfl⟩)))) (hb hby d29_7) hr
 ·show QAB18 Z r0 r1 tb kd ta kk vs cst fv h0 n0 _ T1.heap _
  exact ⟨rfl, N1, kp10, Fn1, Fc1, tb1, kb1, Fv1, szk1, g_tb1, V1⟩
def QAB19 (Z : State) (r0 : Addr) (r1 : Addr) (tb : Addr) (kd : ClassId) (ta : Addr) (kk : ClassId) (vs : List Value) (cst : Int32) (fv : Value) (h0 : Heap) (n0 : Nat) (v : Option Value) (h : Heap) (L : List Loc) : Prop := v = some (.ref r0) ∧ Fr n0 L ∧ Keep h0 h [r0] ∧ Fld Z h r0 "java/lang/AbstractStringBuilder" "count" "I" (.int (19 : Int32)) ∧ Fld Z h r0 "java/lang/AbstractStringBuilder" "coder" "B" (.int (0 : Int32)) ∧ ∃ (t : Addr) (k : ClassId), Fld Z h r0 "java/lang/AbstractStringBuilder" "value" "[B" (.ref t) ∧ h0.size ≤ t ∧ n0 ≤ t ∧ Arv Z h t k .byte (34 : Int32) (own_cp (own_cp own_z34 own_z16 (0 : Int32) (16 : Int32)) vs (0 : Int32) (19 : Int32)) (.int (0 : Int32))
theorem ef_rmAB19 (m : MethodId) (x0 : Addr) (x1 : Addr) : entryFrame m #[(.ref x0), (.ref x1)] 2 = mkF m 0 #[.val (.ref x0), .val (.ref x1)] [] := by first | (simp [entryFrame, mkF, argsToLocals, Value.category]; done) | rfl
set_option maxRecDepth 65536 in
set_option maxHeartbeats 40000000 in
theorem rmAB19 (l : Launch) (Z : State) (a0 : Array Value) (hw : ∀ d ∈ tables_1, d.before a0 Z = true) (ws : List Jvm.Cond) (r0 : Addr) (r1 : Addr) (tb : Addr) (kd : ClassId) (ta : Addr) (kk : ClassId) (vs : List Value) (cst : Int32) (fv : Value) (h0 : Heap) (n0 : Nat) (Z0 : n0 ≤ h0.size) (E0 : Exa Z h0 r0 "java/lang/StringBuilder") (Fn : Fld Z h0 r0 "java/lang/AbstractStringBuilder" "count" "I" (.int (0 : Int32))) (Fc : Fld Z h0 r0 "java/lang/AbstractStringBuilder" "coder" "B" (.int (0 : Int32))) (Fv : Fld Z h0 r0 "java/lang/AbstractStringBuilder" "value" "[B" (.ref tb)) (Vd : Arv Z h0 tb kd .byte (16 : Int32) own_z16 (.int (0 : Int32))) (Ey : Exa Z h0 r1 "java/lang/String") (Fcy : Fld Z h0 r1 "java/lang/String" "coder" "B" (.int (0 : Int32))) (Fvy : Fld Z h0 r1 "java/lang/String" "value" "[B" (.ref ta)) (V0 : Arv Z h0 ta kk .byte (19 : Int32) vs (.int (0 : Int32))) (O0 : Old Z n0 h0) (g_r0 : n0 ≤ r0) (dq_0b : r0 ≠ tb) (dq_01 : r0 ≠ r1) (dq_0a : r0 ≠ ta) (SS : Sts Z cst fv) :
  MetFree l (⟨"java/lang/StringBuilder", "append", "(Ljava/lang/String;)Ljava/lang/StringBuilder;"⟩ : MethodName) (head1 (Jvm.Cond.code (⟨"java/lang/StringBuilder", "append", "(Ljava/lang/String;)Ljava/lang/StringBuilder;"⟩ : MethodName) jdk_67_method_7_code 2 (some (.object "java/lang/StringBuilder")) :: ws) ({ frames := 5, cells := 1, slots := 34, locals := 76 } : Room)) (fun a U => a = #[(.ref r0), (.ref r1)] ∧ Z.Warmed39 U.vm ∧ U.heap = h0) (fun _ _ _ _ _ => True) (fun _ U o U' => ∃ v L, o = .returned v ∧ QAB19 Z r0 r1 tb kd ta kk vs cst fv h0 n0 v U'.heap L ∧ FrameEnd U o U' L ({ frames := 5, cells := 1, slots := 34, locals := 76 } : Room).cells ({ frames := 5, cells := 1, slots := 34, locals := 76 } : Room).slots) := by
 refine MetFree.of_bodySF (plainFor_of_name pnc_java_lang_StringBuilder) hisR ?_
 intro p e s m args below meth c s₁ Bd hml0 hP hK
 obtain ⟨rfl, hZ, hh⟩ := hP
 have hx := Bd.exec
 have hby := Bd.bytes
 have hml : c.maxLocals = 2 := hml0
 have hown : s.vm.findClass "java/lang/StringBuilder" = some m.cls := findClass_of_methodNamed Bd.named
 have hnm := (name_of_methodNamed Bd.named Bd.method).1
 have X0 : Stand p l e ({ frames := 5, cells := 1, slots := 34, locals := 76 } : Room) s m #[(.ref r0), (.ref r1)] below meth c s₁ [] 0 0 := Stand.of_body Bd
 have e0 : s₁.heap = h0 := by rw [← hh, Bd.state]; rfl
 have N0 := Fr.nil n0
 have kp0 : Keep h0 h0 [r0] := Keep.refl _ _
 have G0 : ∀ t, Steps p.tables e below (s₁.setTop (mkF m 0 #[rv r0, rv r1] [])) t → Steps p.tables e below (s₁.setTop (entryFrame m #[(.ref r0), (.ref r1)] 2)) t := fun t k => castTop (ef_rmAB19 m r0 r1) k
 obtain ⟨_, _, ⟨T1, L1, k1, n1⟩, -, X1, ⟨Lc1, hQ1, l1, y1, z1⟩, st1⟩ := superBack X0 hx hZ (y := (⟨"java/lang/AbstractStringBuilder", "append", "(Ljava/lang/String;)Ljava/lang/AbstractStringBuilder;"⟩ : MethodName)) hown (hq hw 160 rfl) (own_same (hq hw 161 rfl) (own_nf (hq hw 229 rfl) (hq hw 228 rfl) rfl) (by decide)) (hq hw 161 rfl) (hq hw 162 rfl) (by decide) (backOf (W := 0) (rmAA19 l Z a0 hw [] r0 r1 tb kd ta kk vs cst fv h0 n0 Z0 E0 Fn Fc Fv Vd Ey Fcy Fvy V0 O0 g_r0 dq_0b dq_01 dq_0a SS) hZ (hq hw 164 rfl) (hq hw 145 rfl) (by decide) (by decide)) e0 (Ins.self E0) (g := (mkF m 2 #[rv r0, rv r1] [(.ref r1), (.ref r0)])) rfl (by rw [hml]; rfl) (hq hw 164 rfl) (argsL := [(.ref r1)]) (rest := []) (lenOf pd_21 rfl) rfl (by show 2 * 0 + _ ≤ _; exact Nat.le_of_eq rfl) (hb hby d29_2) (fun _ _ => ⟨rfl, e0, (by decide : 0 + 1 ≤ _), (by decide : 0 + 34 ≤ _)⟩)
 dsimp only [Pt.U, Pt.locs, Pt.cells, Pt.slots] at X1 l1 y1 z1 st1 hQ1
 subst l1 y1 z1
 obtain ⟨rfl, N1q, K1, Fn1, Fc1, tb1, kb1, Fv1, sz1, g_tb1, V1⟩ := hQ1
 have N1 := Fr.app N0 N1q
 have szk1 : h0.size ≤ tb1 := Nat.le_trans kp0.1 sz1
 have ne_r0_tb1 : r0 ≠ tb1 := Nat.ne_of_lt (Nat.lt_of_lt_of_le E0.lt sz1)
 have ne_tb_tb1 : tb ≠ tb1 := Nat.ne_of_lt (Nat.lt_of_lt_of_le Vd.lt sz1)
 have ne_r1_tb1 : r1 ≠ tb1 := Nat.ne_of_lt (Nat.lt_of_lt_of_le Ey.lt sz1)
 have ne_ta_tb1 : ta ≠ tb1 := Nat.ne_of_lt (Nat.lt_of_lt_of_le V0.lt sz1)
 have fa2 := E0.keep K1
 have fa3 := Vd.keep K1 (ninS (Ne.symm dq_0b) nin0)
 have fa4 := Ey.keep K1
 have fa5 := Fcy.keep K1 (ninS (Ne.symm dq_01) nin0)
 have fa6 := Fvy.keep K1 (ninS (Ne.symm dq_01) nin0)
 have fa7 := V0.keep K1 (ninS (Ne.symm dq_0a) nin0)
 have fa8 := O0.keep K1 (allS g_r0 all0)
 have z9 : n0 ≤ T1.heap.size := Nat.le_trans Z0 K1.1
 have kp10 : Keep h0 T1.heap [r0] := kp0.trans K1 (allS (Or.inl (List.mem_of_getElem? (i := 0) rfl)) all0)
 obtain ⟨fs, hr, hrun, hended, hW, hsame⟩ := X1.leave (v := some (.ref r0)) (fun h => by rw [Bd.returns] at h; cases h)
 refine ⟨_, _, G0 _ ?_, hrun, hended, _, _, rfl, ?_, ⟨_, rfl⟩, hW, hsame.mono (by decide) (by decide)⟩
 ·skip
  refine XS.aloadN X0.here hx rfl (hb hby d29_0) rfl rfl ?_
  refine XS.aloadN X0.here hx rfl (hb hby d29_1) rfl rfl ?_
  refine st1.trans ?_
  refine XS.pop X1.here hx rfl (hb hby d29_5) rfl rfl ?_
  refine XS.aloadN X1.here hx rfl (hb hby d29_6) rfl rfl ?_
  exact retOut X1 hx Bd.returns rfl (Or.inr (Or.inr (Or.inr (Or.inr ⟨rfl, rfl, rfl⟩)))) (hb hby d29_7) hr
 ·show QAB19 Z r0 r1 tb kd ta kk vs cst fv h0 n0 _ T1.heap _
  exact ⟨rfl, N1, kp10, Fn1, Fc1, tb1, kb1, Fv1, szk1, g_tb1, V1⟩
theorem own_dig1 {n : Nat} (h : n < 10) : Jvm.Free.SBG.digitsL n = 1 := by
  show Jvm.Free.SBG.wN 10 n = 1
  rw [Jvm.Free.SBG.wN, if_neg (by omega), if_neg (by omega)]
theorem own_sz1 {q : Int64} (h0 : ¬ (q < (0 : Int64))) (h1 : q.toInt.toNat < 10) : Jvm.Free.SBG.strSizeOfL q = (1 : Int32) := by rw [own_size h0, own_dig1 h1]; rfl
theorem own_ds1 {r : Nat} (h : r < 10) : own_ds 1 r = [.int (Int32.ofNat (48 + r))] := by
  show [Value.int (Int32.ofNat (48 + r / 10 ^ (1 - 1 - 0) % 10))] = _
  rw [show 1 - 1 - 0 = 0 from rfl, Nat.pow_zero, Nat.div_one, Nat.mod_eq_of_lt h]
theorem own_fin18 {q r : Nat} (h : r < 10) : own_cp (List.replicate 19 (Value.int (0 : Int32))) (own_gcl (own_cp (own_cp own_z34 own_z16 (0 : Int32) (16 : Int32)) (own_ds 18 q) (0 : Int32) (18 : Int32)) 19 r) (0 : Int32) (19 : Int32) = own_ds 19 (10 * q + r) := by
  rw [own_ds_snoc _ _ _ h]
  unfold own_gcl
  rw [own_dig1 h, own_ds1 h]
  rfl
theorem own_fin19 {q r : Nat} (h : r < 10) : own_cp (List.replicate 20 (Value.int (0 : Int32))) (own_gcl (own_cp (own_cp own_z34 own_z16 (0 : Int32) (16 : Int32)) (own_ds 19 q) (0 : Int32) (19 : Int32)) 20 r) (0 : Int32) (20 : Int32) = own_ds 20 (10 * q + r) := by
  rw [own_ds_snoc _ _ _ h]
  unfold own_gcl
  rw [own_dig1 h, own_ds1 h]
  rfl
theorem d42_0 : decode jdk_68_method_68_code 0 = .ok (.getstatic 18, 3) := by decide +kernel
theorem d42_3 : decode jdk_68_method_68_code 3 = .ok (.ifCond .eq 14, 3) := by decide +kernel
theorem d42_6 : decode jdk_68_method_68_code 6 = .ok (.aload_n 0, 1) := by decide +kernel
theorem d42_7 : decode jdk_68_method_68_code 7 = .ok (.getfield 22, 3) := by decide +kernel
theorem d42_10 : decode jdk_68_method_68_code 10 = .ok (.ifCond .ne 7, 3) := by decide +kernel
theorem d42_13 : decode jdk_68_method_68_code 13 = .ok (.iconst 1, 1) := by decide +kernel
theorem d42_14 : decode jdk_68_method_68_code 14 = .ok (.goto 4, 3) := by decide +kernel
theorem d42_18 : decode jdk_68_method_68_code 18 = .ok (.ireturn, 1) := by decide +kernel
def Q42 (Z : State) (r0 : Addr) (cst : Int32) (fv : Value) (h0 : Heap) (n0 : Nat) (v : Option Value) (h : Heap) (L : List Loc) : Prop := v = some (.int (1 : Int32)) ∧ Fr n0 L ∧ h = h0
theorem ef_rm42 (m : MethodId) (x0 : Addr) : entryFrame m #[(.ref x0)] 1 = mkF m 0 #[.val (.ref x0)] [] := by first | (simp [entryFrame, mkF, argsToLocals, Value.category]; done) | rfl
set_option maxRecDepth 65536 in
set_option maxHeartbeats 40000000 in
theorem rm42 (l : Launch) (Z : State) (a0 : Array Value) (hw : ∀ d ∈ tables_1, d.before a0 Z = true) (ws : List Jvm.Cond) (r0 : Addr) (cst : Int32) (fv : Value) (h0 : Heap) (n0 : Nat) (Z0 : n0 ≤ h0.size) (Fc : Fld Z h0 r0 "java/lang/AbstractStringBuilder" "coder" "B" (.int (0 : Int32))) (O0 : Old Z n0 h0) (SS : Sts Z cst fv) :
  MetFree l (⟨"java/lang/AbstractStringBuilder", "isLatin1", "()Z"⟩ : MethodName) (head1 (Jvm.Cond.code (⟨"java/lang/AbstractStringBuilder", "isLatin1", "()Z"⟩ : MethodName) jdk_68_method_68_code 1 (some .boolean) :: ws) ({ frames := 0, cells := 0, slots := 0, locals := 0 } : Room)) (fun a U => a = #[(.ref r0)] ∧ Z.Warmed39 U.vm ∧ U.heap = h0) (fun _ _ _ _ _ => True) (fun _ U o U' => ∃ v L, o = .returned v ∧ Q42 Z r0 cst fv h0 n0 v U'.heap L ∧ FrameEnd U o U' L ({ frames := 0, cells := 0, slots := 0, locals := 0 } : Room).cells ({ frames := 0, cells := 0, slots := 0, locals := 0 } : Room).slots) := by
 refine MetFree.of_bodySF (plainFor_of_name pnc_java_lang_AbstractStringBuilder) hisR ?_
 intro p e s m args below meth c s₁ Bd hml0 hP hK
 obtain ⟨rfl, hZ, hh⟩ := hP
 have hx := Bd.exec
 have hby := Bd.bytes
 have hml : c.maxLocals = 1 := hml0
 have hown : s.vm.findClass "java/lang/AbstractStringBuilder" = some m.cls := findClass_of_methodNamed Bd.named
 have hnm := (name_of_methodNamed Bd.named Bd.method).1
 have X0 : Stand p l e ({ frames := 0, cells := 0, slots := 0, locals := 0 } : Room) s m #[(.ref r0)] below meth c s₁ [] 0 0 := Stand.of_body Bd
 have e0 : s₁.heap = h0 := by rw [← hh, Bd.state]; rfl
 have N0 := Fr.nil n0
 have kp0 : Keep h0 h0 [] := Keep.refl _ _
 have G0 : ∀ t, Steps p.tables e below (s₁.setTop (mkF m 0 #[rv r0] [])) t → Steps p.tables e below (s₁.setTop (entryFrame m #[(.ref r0)] 1)) t := fun t k => castTop (ef_rm42 m r0) k
 obtain ⟨T1, X1, e1, st1⟩ := getS2 X0 hx hZ hown (host := "") (Or.inl (hq hw 148 rfl)) Via.refl e0 (SS.1.ext O0.2) (g := (mkF m 0 #[rv r0] [])) rfl (hb hby d42_0)
 have G2 : ∀ t, Steps p.tables e below (T1.setTop (mkF m 3 #[rv r0] [(.int cst)])) t → Steps p.tables e below (s₁.setTop (entryFrame m #[(.ref r0)] 1)) t := by
  intro t kt
  refine G0 _ ?_
  refine st1 _ ?_
  exact kt
 have hc3_3 : ¬ (cst = (0 : Int32)) := SS.2.1
 obtain ⟨T4, X4, e4, st4⟩ := getF X1 hx hZ hown (host := "") (Or.inl (hq hw 151 rfl)) Via.refl e1 Fc (g := (mkF m 7 #[rv r0] [(.ref r0)])) rfl rfl (hb hby d42_7)
 have G5 : ∀ t, Steps p.tables e below (T4.setTop (mkF m 10 #[rv r0] [(.int (0 : Int32))])) t → Steps p.tables e below (s₁.setTop (entryFrame m #[(.ref r0)] 1)) t := by
  intro t kt
  refine G2 _ ?_
  refine XS.ifNo X1.here hx rfl (hb hby d42_3) rfl ((if0 _ _).trans (feq hc3_3).1) ?_
  refine XS.aloadN X1.here hx rfl (hb hby d42_6) rfl rfl ?_
  refine st4 _ ?_
  exact kt
 obtain ⟨fs, hr, hrun, hended, hW, hsame⟩ := X4.leave (v := some (.int (1 : Int32))) (fun h => by rw [Bd.returns] at h; cases h)
 refine ⟨_, _, G5 _ ?_, hrun, hended, _, _, rfl, ?_, ⟨_, rfl⟩, hW, hsame.mono (by decide) (by decide)⟩
 ·skip
  refine XS.ifNo X4.here hx rfl (hb hby d42_10) rfl ((if0 _ _).trans (teq (by decide)).2) ?_
  refine XS.iconst X4.here hx rfl (hb hby d42_13) ?_
  refine XS.goto X4.here hx rfl (pc0 := 14) (pc' := 18) rfl (hb hby d42_14) (by decide) (by decide) ?_
  exact retN X4 hx (t := .boolean) Bd.returns (by simp) (hb hby d42_18) hr
 ·show Q42 Z r0 cst fv h0 n0 _ T4.heap _
  rw [e4]
  exact ⟨rfl, N0, rfl⟩
theorem d41_0 : decode jdk_68_method_33_code 0 = .ok (.aload_n 0, 1) := by decide +kernel
theorem d41_1 : decode jdk_68_method_33_code 1 = .ok (.getfield 79, 3) := by decide +kernel
theorem d41_4 : decode jdk_68_method_33_code 4 = .ok (.istore_n 3, 1) := by decide +kernel
theorem d41_5 : decode jdk_68_method_33_code 5 = .ok (.iload_n 3, 1) := by decide +kernel
theorem d41_6 : decode jdk_68_method_33_code 6 = .ok (.lload_n 1, 1) := by decide +kernel
theorem d41_7 : decode jdk_68_method_33_code 7 = .ok (.invokestatic 254, 3) := by decide +kernel
theorem d41_10 : decode jdk_68_method_33_code 10 = .ok (.iadd, 1) := by decide +kernel
theorem d41_11 : decode jdk_68_method_33_code 11 = .ok (.istore 4, 2) := by decide +kernel
theorem d41_13 : decode jdk_68_method_33_code 13 = .ok (.aload_n 0, 1) := by decide +kernel
theorem d41_14 : decode jdk_68_method_33_code 14 = .ok (.iload 4, 2) := by decide +kernel
theorem d41_16 : decode jdk_68_method_33_code 16 = .ok (.invokevirtual 100, 3) := by decide +kernel
theorem d41_19 : decode jdk_68_method_33_code 19 = .ok (.aload_n 0, 1) := by decide +kernel
theorem d41_20 : decode jdk_68_method_33_code 20 = .ok (.invokevirtual 83, 3) := by decide +kernel
theorem d41_23 : decode jdk_68_method_33_code 23 = .ok (.ifCond .eq 17, 3) := by decide +kernel
theorem d41_26 : decode jdk_68_method_33_code 26 = .ok (.lload_n 1, 1) := by decide +kernel
theorem d41_27 : decode jdk_68_method_33_code 27 = .ok (.iload 4, 2) := by decide +kernel
theorem d41_29 : decode jdk_68_method_33_code 29 = .ok (.aload_n 0, 1) := by decide +kernel
theorem d41_30 : decode jdk_68_method_33_code 30 = .ok (.getfield 15, 3) := by decide +kernel
theorem d41_33 : decode jdk_68_method_33_code 33 = .ok (.invokestatic 259, 3) := by decide +kernel
theorem d41_36 : decode jdk_68_method_33_code 36 = .ok (.pop, 1) := by decide +kernel
theorem d41_37 : decode jdk_68_method_33_code 37 = .ok (.goto 15, 3) := by decide +kernel
theorem d41_52 : decode jdk_68_method_33_code 52 = .ok (.aload_n 0, 1) := by decide +kernel
theorem d41_53 : decode jdk_68_method_33_code 53 = .ok (.iload 4, 2) := by decide +kernel
theorem d41_55 : decode jdk_68_method_33_code 55 = .ok (.putfield 79, 3) := by decide +kernel
theorem d41_58 : decode jdk_68_method_33_code 58 = .ok (.aload_n 0, 1) := by decide +kernel
theorem d41_59 : decode jdk_68_method_33_code 59 = .ok (.areturn, 1) := by decide +kernel
def QAJ41_18 (Z : State) (r0 : Addr) (q1 : Int64) (tb : Addr) (kd : ClassId) (vd : List Value) (cst : Int32) (fv : Value) (h0 : Heap) (n0 : Nat) (v : Option Value) (h : Heap) (L : List Loc) : Prop := v = some (.ref r0) ∧ Fr n0 L ∧ Keep h0 h [r0, tb] ∧ Fld Z h r0 "java/lang/AbstractStringBuilder" "count" "I" (.int (19 : Int32)) ∧ Fld Z h r0 "java/lang/AbstractStringBuilder" "coder" "B" (.int (0 : Int32)) ∧ Fld Z h r0 "java/lang/AbstractStringBuilder" "value" "[B" (.ref tb) ∧ Arv Z h tb kd .byte (34 : Int32) (own_gcl vd 19 q1.toInt.toNat) (.int (0 : Int32))
theorem ef_rmAJ41_18 (m : MethodId) (x0 : Addr) (x1 : Int64) : entryFrame m #[(.ref x0), (.long x1)] 5 = mkF m 0 #[.val (.ref x0), .val (.long x1), .second, .unset, .unset] [] := by first | (simp [entryFrame, mkF, argsToLocals, Value.category]; done) | rfl
set_option maxRecDepth 65536 in
set_option maxHeartbeats 40000000 in
theorem rmAJ41_18 (l : Launch) (Z : State) (a0 : Array Value) (hw : ∀ d ∈ tables_1, d.before a0 Z = true) (ws : List Jvm.Cond) (r0 : Addr) (q1 : Int64) (tb : Addr) (kd : ClassId) (vd : List Value) (cst : Int32) (fv : Value) (h0 : Heap) (n0 : Nat) (Z0 : n0 ≤ h0.size) (E0 : Exa Z h0 r0 "java/lang/StringBuilder") (Fn : Fld Z h0 r0 "java/lang/AbstractStringBuilder" "count" "I" (.int (18 : Int32))) (Fc : Fld Z h0 r0 "java/lang/AbstractStringBuilder" "coder" "B" (.int (0 : Int32))) (Fv : Fld Z h0 r0 "java/lang/AbstractStringBuilder" "value" "[B" (.ref tb)) (Vd : Arv Z h0 tb kd .byte (34 : Int32) vd (.int (0 : Int32))) (O0 : Old Z n0 h0) (g_r0 : n0 ≤ r0) (g_tb : n0 ≤ tb) (dq_0b : r0 ≠ tb) (hvl : vd.length = 34) (hr0 : ¬ (q1 < (0 : Int64))) (hr1 : q1.toInt.toNat < 10) (TB : own_TB Z) (SS : Sts Z cst fv) :
  MetFree l (⟨"java/lang/AbstractStringBuilder", "append", "(J)Ljava/lang/AbstractStringBuilder;"⟩ : MethodName) (head1 (Jvm.Cond.code (⟨"java/lang/AbstractStringBuilder", "append", "(J)Ljava/lang/AbstractStringBuilder;"⟩ : MethodName) jdk_68_method_33_code 5 (some (.object "java/lang/AbstractStringBuilder")) :: ws) ({ frames := 2, cells := 0, slots := 0, locals := 102 } : Room)) (fun a U => a = #[(.ref r0), (.long q1)] ∧ Z.Warmed39 U.vm ∧ U.heap = h0) (fun _ _ _ _ _ => True) (fun _ U o U' => ∃ v L, o = .returned v ∧ QAJ41_18 Z r0 q1 tb kd vd cst fv h0 n0 v U'.heap L ∧ FrameEnd U o U' L ({ frames := 2, cells := 0, slots := 0, locals := 102 } : Room).cells ({ frames := 2, cells := 0, slots := 0, locals := 102 } : Room).slots) := by
 refine MetFree.of_bodySF (plainFor_of_name pnc_java_lang_AbstractStringBuilder) hisR ?_
 intro p e s m args below meth c s₁ Bd hml0 hP hK
 obtain ⟨rfl, hZ, hh⟩ := hP
 have hx := Bd.exec
 have hby := Bd.bytes
 have hml : c.maxLocals = 5 := hml0
 have hown : s.vm.findClass "java/lang/AbstractStringBuilder" = some m.cls := findClass_of_methodNamed Bd.named
 have hnm := (name_of_methodNamed Bd.named Bd.method).1
 have X0 : Stand p l e ({ frames := 2, cells := 0, slots := 0, locals := 102 } : Room) s m #[(.ref r0), (.long q1)] below meth c s₁ [] 0 0 := Stand.of_body Bd
 have e0 : s₁.heap = h0 := by rw [← hh, Bd.state]; rfl
 have N0 := Fr.nil n0
 have kp0 : Keep h0 h0 [r0, tb] := Keep.refl _ _
 have G0 : ∀ t, Steps p.tables e below (s₁.setTop (mkF m 0 #[rv r0, .val (.long q1), .second, .unset, .unset] [])) t → Steps p.tables e below (s₁.setTop (entryFrame m #[(.ref r0), (.long q1)] 5)) t := fun t k => castTop (ef_rmAJ41_18 m r0 q1) k
 obtain ⟨T1, X1, e1, st1⟩ := getF X0 hx hZ hown (host := "") (Or.inl (hq hw 166 rfl)) Via.refl e0 Fn (g := (mkF m 1 #[rv r0, .val (.long q1), .second, .unset, .unset] [(.ref r0)])) rfl rfl (hb hby d41_1)
 obtain ⟨_, _, ⟨T2, L2, k2, n2⟩, -, X2, ⟨Lc2, hQ2, l2, y2, z2⟩, st2⟩ := Jvm.LawKit.callS X1 hx (y := (⟨"java/lang/Long", "stringSize", "(J)I"⟩ : MethodName)) hown (mvT hZ (hq hw 225 rfl)) (mvT hZ (hq hw 48 rfl)) (mvT hZ (hq hw 36 rfl)) (mvT hZ (hq hw 49 rfl)) (by decide) (own_ss (n0 := n0) (W := 1) (h := h0) hZ hw q1 (by decide) (by decide)) (g := (mkF m 7 #[rv r0, .val (.long q1), .second, iv 18, .unset] [(.long q1), (.int (18 : Int32))])) rfl (by rw [hml]; rfl) (argsL := [(.long q1)]) (rest := [(.int (18 : Int32))]) (lenOf pd_8 rfl) rfl (by show 2 * 0 + _ ≤ _; exact Nat.le_of_eq rfl) (hb hby d41_7) (fun _ _ => ⟨rfl, e1, (by decide : 0 + 0 ≤ _), (by decide : 0 + 0 ≤ _)⟩)
 dsimp only [Pt.U, Pt.locs, Pt.cells, Pt.slots] at X2 l2 y2 z2 st2 hQ2
 subst l2 y2 z2
 obtain ⟨rfl, N2q, eh2⟩ := hQ2
 have N2 := Fr.app N0 N2q
 have G3 : ∀ t, Steps p.tables e below (T2.setTop (mkF m 10 #[rv r0, .val (.long q1), .second, iv 18, .unset] [(.int (Jvm.Free.SBG.strSizeOfL q1)), (.int (18 : Int32))])) t → Steps p.tables e below (s₁.setTop (entryFrame m #[(.ref r0), (.long q1)] 5)) t := by
  intro t kt
  refine G0 _ ?_
  refine XS.aloadN X0.here hx rfl (hb hby d41_0) rfl rfl ?_
  refine st1 _ ?_
  refine XS.istoreN X1.here hx rfl (hb hby d41_4) rfl (l' := #[rv r0, .val (.long q1), .second, iv 18, .unset]) rfl ?_
  refine XS.iloadN X1.here hx rfl (hb hby d41_5) rfl ?_
  refine XS.lloadN X1.here hx rfl (hb hby d41_6) rfl ?_
  refine st2 _ ?_
  exact kt
 have G4 : ∀ t, Steps p.tables e below (T2.setTop (mkF m 10 #[rv r0, .val (.long q1), .second, iv 18, .unset] [(.int (1 : Int32)), (.int (18 : Int32))])) t → Steps p.tables e below (s₁.setTop (entryFrame m #[(.ref r0), (.long q1)] 5)) t := fun t kt => G3 t (by rw [own_sz1 hr0 hr1]; exact kt)
 obtain ⟨cq5, kq5, q5a, q5b, q5c⟩ := isOf hZ eh2 E0
 obtain ⟨_, _, ⟨T5, L5, k5, n5⟩, -, X5, ⟨Lc5, hQ5, l5, y5, z5⟩, st5⟩ := X2.virtualBack hx (y := (⟨"java/lang/AbstractStringBuilder", "ensureCapacityInternal", "(I)V"⟩ : MethodName)) (z := (⟨"java/lang/AbstractStringBuilder", "ensureCapacityInternal", "(I)V"⟩ : MethodName)) hown (mvT hZ (hq hw 168 rfl)) (own_decl (mvT hZ (hq hw 169 rfl)) (mvT hZ (hq hw 172 rfl))) (notFace_of_selects (args := #[]) (mvT hZ (hq hw 171 rfl))) (mvT hZ (hq hw 171 rfl)) (mvT hZ (hq hw 169 rfl)) (by decide) (backOf (W := 0) (rmED19 l Z a0 hw [] r0 tb kd vd h0 n0 Z0 Fc Fv Vd ) hZ (hq hw 172 rfl) (hq hw 145 rfl) (by decide) (by decide)) q5a q5c (g := (mkF m 16 #[rv r0, .val (.long q1), .second, iv 18, iv 19] [(.int (19 : Int32)), (.ref r0)])) rfl (by rw [hml]; rfl) (Steps.refl _) (argsL := [(.int (19 : Int32))]) (rest := []) (lenOf pd_13 rfl) rfl (by show 2 * 0 + _ ≤ _; exact Nat.le_of_eq rfl) (hb hby d41_16) (fun _ _ => ⟨rfl, eh2, (by decide : 0 + 0 ≤ _), (by decide : 0 + 0 ≤ _)⟩)
 dsimp only [Pt.U, Pt.locs, Pt.cells, Pt.slots] at X5 l5 y5 z5 st5 hQ5
 subst l5 y5 z5
 obtain ⟨rfl, N5q, eh5⟩ := hQ5
 have N5 := Fr.app N2 N5q
 obtain ⟨cq6, kq6, q6a, q6b, q6c⟩ := isOf hZ eh5 E0
 obtain ⟨_, _, ⟨T6, L6, k6, n6⟩, -, X6, ⟨Lc6, hQ6, l6, y6, z6⟩, st6⟩ := X5.virtualBack hx (y := (⟨"java/lang/AbstractStringBuilder", "isLatin1", "()Z"⟩ : MethodName)) (z := (⟨"java/lang/AbstractStringBuilder", "isLatin1", "()Z"⟩ : MethodName)) hown (mvT hZ (hq hw 226 rfl)) (mvT hZ (hq hw 227 rfl)) (notFace_of_selects (args := #[]) (mvT hZ (hq hw 229 rfl))) (mvT hZ (hq hw 229 rfl)) (mvT hZ (hq hw 228 rfl)) (by decide) (backOf (W := 0) (rm42 l Z a0 hw [] r0  cst fv h0 n0 Z0 Fc O0  SS) hZ (hq hw 230 rfl) (hq hw 145 rfl) (by decide) (by decide)) q6a q6c (g := (mkF m 20 #[rv r0, .val (.long q1), .second, iv 18, iv 19] [(.ref r0)])) rfl (by rw [hml]; rfl) (Steps.refl _) (argsL := []) (rest := []) (lenOf pd_3 rfl) rfl (by show 2 * 0 + _ ≤ _; exact Nat.le_of_eq rfl) (hb hby d41_20) (fun _ _ => ⟨rfl, eh5, (by decide : 0 + 0 ≤ _), (by decide : 0 + 0 ≤ _)⟩)
 dsimp only [Pt.U, Pt.locs, Pt.cells, Pt.slots] at X6 l6 y6 z6 st6 hQ6
 subst l6 y6 z6
 obtain ⟨rfl, N6q, eh6⟩ := hQ6
 have N6 := Fr.app N5 N6q
 have G7 : ∀ t, Steps p.tables e below (T6.setTop (mkF m 23 #[rv r0, .val (.long q1), .second, iv 18, iv 19] [(.int (1 : Int32))])) t → Steps p.tables e below (s₁.setTop (entryFrame m #[(.ref r0), (.long q1)] 5)) t := by
  intro t kt
  refine G4 _ ?_
  refine XS.iadd X2.here hx rfl (hb hby d41_10) rfl ?_
  refine XS.istore X2.here hx rfl (hb hby d41_11) rfl (l' := #[rv r0, .val (.long q1), .second, iv 18, iv 19]) rfl ?_
  refine XS.aloadN X2.here hx rfl (hb hby d41_13) rfl rfl ?_
  refine XS.iload X2.here hx rfl (hb hby d41_14) rfl ?_
  refine st5.trans ?_
  refine XS.aloadN X5.here hx rfl (hb hby d41_19) rfl rfl ?_
  refine st6.trans ?_
  exact kt
 obtain ⟨T8, X8, e8, st8⟩ := getF X6 hx hZ hown (host := "") (Or.inl (hq hw 149 rfl)) Via.refl eh6 Fv (g := (mkF m 30 #[rv r0, .val (.long q1), .second, iv 18, iv 19] [(.ref r0), (.int (19 : Int32)), (.long q1)])) rfl rfl (hb hby d41_30)
 obtain ⟨_, _, ⟨T9, L9, k9, n9⟩, -, X9, ⟨Lc9, hQ9, l9, y9, z9⟩, st9⟩ := Jvm.LawKit.callS X8 hx (y := (⟨"java/lang/Long", "getChars", "(JI[B)I"⟩ : MethodName)) hown (mvT hZ (hq hw 231 rfl)) (mvT hZ (hq hw 53 rfl)) (mvT hZ (hq hw 36 rfl)) (mvT hZ (hq hw 54 rfl)) (by decide) (own_gc (n0 := n0) (W := 0) hZ hw q1 (19 : Int32) 19 hr0 rfl Vd (hvl.trans (by decide)) (by rw [hvl]; decide) (by rw [own_dig1 hr1]; decide) O0 g_tb TB (by decide) (by decide)) (g := (mkF m 33 #[rv r0, .val (.long q1), .second, iv 18, iv 19] [(.ref tb), (.int (19 : Int32)), (.long q1)])) rfl (by rw [hml]; rfl) (argsL := [(.long q1), (.int (19 : Int32)), (.ref tb)]) (rest := []) (lenOf pd_9 rfl) rfl (by show 2 * 0 + _ ≤ _; exact Nat.le_of_eq rfl) (hb hby d41_33) (fun _ _ => ⟨rfl, e8, (by decide : 0 + 0 ≤ _), (by decide : 0 + 0 ≤ _)⟩)
 dsimp only [Pt.U, Pt.locs, Pt.cells, Pt.slots] at X9 l9 y9 z9 st9 hQ9
 subst l9 y9 z9
 obtain ⟨rv9, rfl, N9q, K9, V9⟩ := hQ9
 have N9 := Fr.app N6 N9q
 have fa10 := E0.keep K9
 have fa11 := Fn.keep K9 (ninS dq_0b nin0)
 have fa12 := Fc.keep K9 (ninS dq_0b nin0)
 have fa13 := Fv.keep K9 (ninS dq_0b nin0)
 have fa14 := O0.keep K9 (allS g_tb all0)
 have z15 : n0 ≤ T9.heap.size := Nat.le_trans Z0 K9.1
 have kp16 : Keep h0 T9.heap [r0, tb] := kp0.trans K9 (allS (Or.inl (List.mem_of_getElem? (i := 1) rfl)) all0)
 obtain ⟨T17, h17, X17, e17, W17, st17⟩ := putF X9 hx hZ hown (host := "") (Or.inl (hq hw 166 rfl)) Via.refl rfl fa11 fa10 (Or.inl (hq hw 167 rfl)) (hq hw 135 rfl) (ty := .int) (by decide) rfl rfl (g := (mkF m 55 #[rv r0, .val (.long q1), .second, iv 18, iv 19] [(.int (19 : Int32)), (.ref r0)])) rfl rfl (hb hby d41_55)
 have fa18 := fa10.wr W17
 have fa19 : Fld Z h17 r0 "java/lang/AbstractStringBuilder" "count" "I" (.int (19 : Int32)) := fa11.same W17
 have fa20 := fa12.other W17 (Or.inr (slot_ne (Or.inl (hq hw 152 rfl)) (Or.inl (hq hw 167 rfl)) (by decide) (t := .byte) (t' := .int) (by decide) (by decide)))
 have fa21 := fa13.other W17 (Or.inr (slot_ne (Or.inl (hq hw 150 rfl)) (Or.inl (hq hw 167 rfl)) (by decide) (t := (.array .byte)) (t' := .int) (by decide) (by decide)))
 have fa22 := fa14.wr W17 g_r0
 have fa23 := V9.other W17 (Ne.symm dq_0b)
 have z24 : n0 ≤ h17.size := Nat.le_trans z15 (Nat.le_of_eq W17.size.symm)
 have kp25 : Keep h0 h17 [r0, tb] := kp16.wr W17 (Or.inl (List.mem_of_getElem? (i := 0) rfl))
 have N17 := Fr.snoc X17 N9 g_r0
 obtain ⟨fs, hr, hrun, hended, hW, hsame⟩ := X17.leave (v := some (.ref r0)) (fun h => by rw [Bd.returns] at h; cases h)
 refine ⟨_, _, G7 _ ?_, hrun, hended, _, _, rfl, ?_, ⟨_, rfl⟩, hW, hsame.mono (by decide) (by decide)⟩
 ·skip
  refine XS.ifNo X6.here hx rfl (hb hby d41_23) rfl ((if0 _ _).trans (feq (by decide)).1) ?_
  refine XS.lloadN X6.here hx rfl (hb hby d41_26) rfl ?_
  refine XS.iload X6.here hx rfl (hb hby d41_27) rfl ?_
  refine XS.aloadN X6.here hx rfl (hb hby d41_29) rfl rfl ?_
  refine st8 _ ?_
  refine st9 _ ?_
  refine XS.pop X9.here hx rfl (hb hby d41_36) rfl rfl ?_
  show Steps p.tables e below (T9.setTop (mkF m 37 #[rv r0, .val (.long q1), .second, iv 18, iv 19] [])) _
  refine XS.goto X9.here hx rfl (pc0 := 37) (pc' := 52) rfl (hb hby d41_37) (by decide) (by decide) ?_
  refine XS.aloadN X9.here hx rfl (hb hby d41_52) rfl rfl ?_
  refine XS.iload X9.here hx rfl (hb hby d41_53) rfl ?_
  refine st17 _ ?_
  refine XS.aloadN X17.here hx rfl (hb hby d41_58) rfl rfl ?_
  exact retOut X17 hx Bd.returns rfl (Or.inr (Or.inr (Or.inr (Or.inr ⟨rfl, rfl, rfl⟩)))) (hb hby d41_59) hr
 ·show QAJ41_18 Z r0 q1 tb kd vd cst fv h0 n0 _ T17.heap _
  rw [e17]
  exact ⟨rfl, N17, kp25, fa19, fa20, fa21, fa23⟩
def QAJ41_19 (Z : State) (r0 : Addr) (q1 : Int64) (tb : Addr) (kd : ClassId) (vd : List Value) (cst : Int32) (fv : Value) (h0 : Heap) (n0 : Nat) (v : Option Value) (h : Heap) (L : List Loc) : Prop := v = some (.ref r0) ∧ Fr n0 L ∧ Keep h0 h [r0, tb] ∧ Fld Z h r0 "java/lang/AbstractStringBuilder" "count" "I" (.int (20 : Int32)) ∧ Fld Z h r0 "java/lang/AbstractStringBuilder" "coder" "B" (.int (0 : Int32)) ∧ Fld Z h r0 "java/lang/AbstractStringBuilder" "value" "[B" (.ref tb) ∧ Arv Z h tb kd .byte (34 : Int32) (own_gcl vd 20 q1.toInt.toNat) (.int (0 : Int32))
theorem ef_rmAJ41_19 (m : MethodId) (x0 : Addr) (x1 : Int64) : entryFrame m #[(.ref x0), (.long x1)] 5 = mkF m 0 #[.val (.ref x0), .val (.long x1), .second, .unset, .unset] [] := by first | (simp [entryFrame, mkF, argsToLocals, Value.category]; done) | rfl
set_option maxRecDepth 65536 in
set_option maxHeartbeats 40000000 in
theorem rmAJ41_19 (l : Launch) (Z : State) (a0 : Array Value) (hw : ∀ d ∈ tables_1, d.before a0 Z = true) (ws : List Jvm.Cond) (r0 : Addr) (q1 : Int64) (tb : Addr) (kd : ClassId) (vd : List Value) (cst : Int32) (fv : Value) (h0 : Heap) (n0 : Nat) (Z0 : n0 ≤ h0.size) (E0 : Exa Z h0 r0 "java/lang/StringBuilder") (Fn : Fld Z h0 r0 "java/lang/AbstractStringBuilder" "count" "I" (.int (19 : Int32))) (Fc : Fld Z h0 r0 "java/lang/AbstractStringBuilder" "coder" "B" (.int (0 : Int32))) (Fv : Fld Z h0 r0 "java/lang/AbstractStringBuilder" "value" "[B" (.ref tb)) (Vd : Arv Z h0 tb kd .byte (34 : Int32) vd (.int (0 : Int32))) (O0 : Old Z n0 h0) (g_r0 : n0 ≤ r0) (g_tb : n0 ≤ tb) (dq_0b : r0 ≠ tb) (hvl : vd.length = 34) (hr0 : ¬ (q1 < (0 : Int64))) (hr1 : q1.toInt.toNat < 10) (TB : own_TB Z) (SS : Sts Z cst fv) :
  MetFree l (⟨"java/lang/AbstractStringBuilder", "append", "(J)Ljava/lang/AbstractStringBuilder;"⟩ : MethodName) (head1 (Jvm.Cond.code (⟨"java/lang/AbstractStringBuilder", "append", "(J)Ljava/lang/AbstractStringBuilder;"⟩ : MethodName) jdk_68_method_33_code 5 (some (.object "java/lang/AbstractStringBuilder")) :: ws) ({ frames := 2, cells := 0, slots := 0, locals := 102 } : Room)) (fun a U => a = #[(.ref r0), (.long q1)] ∧ Z.Warmed39 U.vm ∧ U.heap = h0) (fun _ _ _ _ _ => True) (fun _ U o U' => ∃ v L, o = .returned v ∧ QAJ41_19 Z r0 q1 tb kd vd cst fv h0 n0 v U'.heap L ∧ FrameEnd U o U' L ({ frames := 2, cells := 0, slots := 0, locals := 102 } : Room).cells ({ frames := 2, cells := 0, slots := 0, locals := 102 } : Room).slots) := by
 refine MetFree.of_bodySF (plainFor_of_name pnc_java_lang_AbstractStringBuilder) hisR ?_
 intro p e s m args below meth c s₁ Bd hml0 hP hK
 obtain ⟨rfl, hZ, hh⟩ := hP
 have hx := Bd.exec
 have hby := Bd.bytes
 have hml : c.maxLocals = 5 := hml0
 have hown : s.vm.findClass "java/lang/AbstractStringBuilder" = some m.cls := findClass_of_methodNamed Bd.named
 have hnm := (name_of_methodNamed Bd.named Bd.method).1
 have X0 : Stand p l e ({ frames := 2, cells := 0, slots := 0, locals := 102 } : Room) s m #[(.ref r0), (.long q1)] below meth c s₁ [] 0 0 := Stand.of_body Bd
 have e0 : s₁.heap = h0 := by rw [← hh, Bd.state]; rfl
 have N0 := Fr.nil n0
 have kp0 : Keep h0 h0 [r0, tb] := Keep.refl _ _
 have G0 : ∀ t, Steps p.tables e below (s₁.setTop (mkF m 0 #[rv r0, .val (.long q1), .second, .unset, .unset] [])) t → Steps p.tables e below (s₁.setTop (entryFrame m #[(.ref r0), (.long q1)] 5)) t := fun t k => castTop (ef_rmAJ41_19 m r0 q1) k
 obtain ⟨T1, X1, e1, st1⟩ := getF X0 hx hZ hown (host := "") (Or.inl (hq hw 166 rfl)) Via.refl e0 Fn (g := (mkF m 1 #[rv r0, .val (.long q1), .second, .unset, .unset] [(.ref r0)])) rfl rfl (hb hby d41_1)
 obtain ⟨_, _, ⟨T2, L2, k2, n2⟩, -, X2, ⟨Lc2, hQ2, l2, y2, z2⟩, st2⟩ := Jvm.LawKit.callS X1 hx (y := (⟨"java/lang/Long", "stringSize", "(J)I"⟩ : MethodName)) hown (mvT hZ (hq hw 225 rfl)) (mvT hZ (hq hw 48 rfl)) (mvT hZ (hq hw 36 rfl)) (mvT hZ (hq hw 49 rfl)) (by decide) (own_ss (n0 := n0) (W := 1) (h := h0) hZ hw q1 (by decide) (by decide)) (g := (mkF m 7 #[rv r0, .val (.long q1), .second, iv 19, .unset] [(.long q1), (.int (19 : Int32))])) rfl (by rw [hml]; rfl) (argsL := [(.long q1)]) (rest := [(.int (19 : Int32))]) (lenOf pd_8 rfl) rfl (by show 2 * 0 + _ ≤ _; exact Nat.le_of_eq rfl) (hb hby d41_7) (fun _ _ => ⟨rfl, e1, (by decide : 0 + 0 ≤ _), (by decide : 0 + 0 ≤ _)⟩)
 dsimp only [Pt.U, Pt.locs, Pt.cells, Pt.slots] at X2 l2 y2 z2 st2 hQ2
 subst l2 y2 z2
 obtain ⟨rfl, N2q, eh2⟩ := hQ2
 have N2 := Fr.app N0 N2q
 have G3 : ∀ t, Steps p.tables e below (T2.setTop (mkF m 10 #[rv r0, .val (.long q1), .second, iv 19, .unset] [(.int (Jvm.Free.SBG.strSizeOfL q1)), (.int (19 : Int32))])) t → Steps p.tables e below (s₁.setTop (entryFrame m #[(.ref r0), (.long q1)] 5)) t := by
  intro t kt
  refine G0 _ ?_
  refine XS.aloadN X0.here hx rfl (hb hby d41_0) rfl rfl ?_
  refine st1 _ ?_
  refine XS.istoreN X1.here hx rfl (hb hby d41_4) rfl (l' := #[rv r0, .val (.long q1), .second, iv 19, .unset]) rfl ?_
  refine XS.iloadN X1.here hx rfl (hb hby d41_5) rfl ?_
  refine XS.lloadN X1.here hx rfl (hb hby d41_6) rfl ?_
  refine st2 _ ?_
  exact kt
 have G4 : ∀ t, Steps p.tables e below (T2.setTop (mkF m 10 #[rv r0, .val (.long q1), .second, iv 19, .unset] [(.int (1 : Int32)), (.int (19 : Int32))])) t → Steps p.tables e below (s₁.setTop (entryFrame m #[(.ref r0), (.long q1)] 5)) t := fun t kt => G3 t (by rw [own_sz1 hr0 hr1]; exact kt)
 obtain ⟨cq5, kq5, q5a, q5b, q5c⟩ := isOf hZ eh2 E0
 obtain ⟨_, _, ⟨T5, L5, k5, n5⟩, -, X5, ⟨Lc5, hQ5, l5, y5, z5⟩, st5⟩ := X2.virtualBack hx (y := (⟨"java/lang/AbstractStringBuilder", "ensureCapacityInternal", "(I)V"⟩ : MethodName)) (z := (⟨"java/lang/AbstractStringBuilder", "ensureCapacityInternal", "(I)V"⟩ : MethodName)) hown (mvT hZ (hq hw 168 rfl)) (own_decl (mvT hZ (hq hw 169 rfl)) (mvT hZ (hq hw 172 rfl))) (notFace_of_selects (args := #[]) (mvT hZ (hq hw 171 rfl))) (mvT hZ (hq hw 171 rfl)) (mvT hZ (hq hw 169 rfl)) (by decide) (backOf (W := 0) (rmED20 l Z a0 hw [] r0 tb kd vd h0 n0 Z0 Fc Fv Vd ) hZ (hq hw 172 rfl) (hq hw 145 rfl) (by decide) (by decide)) q5a q5c (g := (mkF m 16 #[rv r0, .val (.long q1), .second, iv 19, iv 20] [(.int (20 : Int32)), (.ref r0)])) rfl (by rw [hml]; rfl) (Steps.refl _) (argsL := [(.int (20 : Int32))]) (rest := []) (lenOf pd_13 rfl) rfl (by show 2 * 0 + _ ≤ _; exact Nat.le_of_eq rfl) (hb hby d41_16) (fun _ _ => ⟨rfl, eh2, (by decide : 0 + 0 ≤ _), (by decide : 0 + 0 ≤ _)⟩)
 dsimp only [Pt.U, Pt.locs, Pt.cells, Pt.slots] at X5 l5 y5 z5 st5 hQ5
 subst l5 y5 z5
 obtain ⟨rfl, N5q, eh5⟩ := hQ5
 have N5 := Fr.app N2 N5q
 obtain ⟨cq6, kq6, q6a, q6b, q6c⟩ := isOf hZ eh5 E0
 obtain ⟨_, _, ⟨T6, L6, k6, n6⟩, -, X6, ⟨Lc6, hQ6, l6, y6, z6⟩, st6⟩ := X5.virtualBack hx (y := (⟨"java/lang/AbstractStringBuilder", "isLatin1", "()Z"⟩ : MethodName)) (z := (⟨"java/lang/AbstractStringBuilder", "isLatin1", "()Z"⟩ : MethodName)) hown (mvT hZ (hq hw 226 rfl)) (mvT hZ (hq hw 227 rfl)) (notFace_of_selects (args := #[]) (mvT hZ (hq hw 229 rfl))) (mvT hZ (hq hw 229 rfl)) (mvT hZ (hq hw 228 rfl)) (by decide) (backOf (W := 0) (rm42 l Z a0 hw [] r0  cst fv h0 n0 Z0 Fc O0  SS) hZ (hq hw 230 rfl) (hq hw 145 rfl) (by decide) (by decide)) q6a q6c (g := (mkF m 20 #[rv r0, .val (.long q1), .second, iv 19, iv 20] [(.ref r0)])) rfl (by rw [hml]; rfl) (Steps.refl _) (argsL := []) (rest := []) (lenOf pd_3 rfl) rfl (by show 2 * 0 + _ ≤ _; exact Nat.le_of_eq rfl) (hb hby d41_20) (fun _ _ => ⟨rfl, eh5, (by decide : 0 + 0 ≤ _), (by decide : 0 + 0 ≤ _)⟩)
 dsimp only [Pt.U, Pt.locs, Pt.cells, Pt.slots] at X6 l6 y6 z6 st6 hQ6
 subst l6 y6 z6
 obtain ⟨rfl, N6q, eh6⟩ := hQ6
 have N6 := Fr.app N5 N6q
 have G7 : ∀ t, Steps p.tables e below (T6.setTop (mkF m 23 #[rv r0, .val (.long q1), .second, iv 19, iv 20] [(.int (1 : Int32))])) t → Steps p.tables e below (s₁.setTop (entryFrame m #[(.ref r0), (.long q1)] 5)) t := by
  intro t kt
  refine G4 _ ?_
  refine XS.iadd X2.here hx rfl (hb hby d41_10) rfl ?_
  refine XS.istore X2.here hx rfl (hb hby d41_11) rfl (l' := #[rv r0, .val (.long q1), .second, iv 19, iv 20]) rfl ?_
  refine XS.aloadN X2.here hx rfl (hb hby d41_13) rfl rfl ?_
  refine XS.iload X2.here hx rfl (hb hby d41_14) rfl ?_
  refine st5.trans ?_
  refine XS.aloadN X5.here hx rfl (hb hby d41_19) rfl rfl ?_
  refine st6.trans ?_
  exact kt
 obtain ⟨T8, X8, e8, st8⟩ := getF X6 hx hZ hown (host := "") (Or.inl (hq hw 149 rfl)) Via.refl eh6 Fv (g := (mkF m 30 #[rv r0, .val (.long q1), .second, iv 19, iv 20] [(.ref r0), (.int (20 : Int32)), (.long q1)])) rfl rfl (hb hby d41_30)
 obtain ⟨_, _, ⟨T9, L9, k9, n9⟩, -, X9, ⟨Lc9, hQ9, l9, y9, z9⟩, st9⟩ := Jvm.LawKit.callS X8 hx (y := (⟨"java/lang/Long", "getChars", "(JI[B)I"⟩ : MethodName)) hown (mvT hZ (hq hw 231 rfl)) (mvT hZ (hq hw 53 rfl)) (mvT hZ (hq hw 36 rfl)) (mvT hZ (hq hw 54 rfl)) (by decide) (own_gc (n0 := n0) (W := 0) hZ hw q1 (20 : Int32) 20 hr0 rfl Vd (hvl.trans (by decide)) (by rw [hvl]; decide) (by rw [own_dig1 hr1]; decide) O0 g_tb TB (by decide) (by decide)) (g := (mkF m 33 #[rv r0, .val (.long q1), .second, iv 19, iv 20] [(.ref tb), (.int (20 : Int32)), (.long q1)])) rfl (by rw [hml]; rfl) (argsL := [(.long q1), (.int (20 : Int32)), (.ref tb)]) (rest := []) (lenOf pd_9 rfl) rfl (by show 2 * 0 + _ ≤ _; exact Nat.le_of_eq rfl) (hb hby d41_33) (fun _ _ => ⟨rfl, e8, (by decide : 0 + 0 ≤ _), (by decide : 0 + 0 ≤ _)⟩)
 dsimp only [Pt.U, Pt.locs, Pt.cells, Pt.slots] at X9 l9 y9 z9 st9 hQ9
 subst l9 y9 z9
 obtain ⟨rv9, rfl, N9q, K9, V9⟩ := hQ9
 have N9 := Fr.app N6 N9q
 have fa10 := E0.keep K9
 have fa11 := Fn.keep K9 (ninS dq_0b nin0)
 have fa12 := Fc.keep K9 (ninS dq_0b nin0)
 have fa13 := Fv.keep K9 (ninS dq_0b nin0)
 have fa14 := O0.keep K9 (allS g_tb all0)
 have z15 : n0 ≤ T9.heap.size := Nat.le_trans Z0 K9.1
 have kp16 : Keep h0 T9.heap [r0, tb] := kp0.trans K9 (allS (Or.inl (List.mem_of_getElem? (i := 1) rfl)) all0)
 obtain ⟨T17, h17, X17, e17, W17, st17⟩ := putF X9 hx hZ hown (host := "") (Or.inl (hq hw 166 rfl)) Via.refl rfl fa11 fa10 (Or.inl (hq hw 167 rfl)) (hq hw 135 rfl) (ty := .int) (by decide) rfl rfl (g := (mkF m 55 #[rv r0, .val (.long q1), .second, iv 19, iv 20] [(.int (20 : Int32)), (.ref r0)])) rfl rfl (hb hby d41_55)
 have fa18 := fa10.wr W17
 have fa19 : Fld Z h17 r0 "java/lang/AbstractStringBuilder" "count" "I" (.int (20 : Int32)) := fa11.same W17
 have fa20 := fa12.other W17 (Or.inr (slot_ne (Or.inl (hq hw 152 rfl)) (Or.inl (hq hw 167 rfl)) (by decide) (t := .byte) (t' := .int) (by decide) (by decide)))
 have fa21 := fa13.other W17 (Or.inr (slot_ne (Or.inl (hq hw 150 rfl)) (Or.inl (hq hw 167 rfl)) (by decide) (t := (.array .byte)) (t' := .int) (by decide) (by decide)))
 have fa22 := fa14.wr W17 g_r0
 have fa23 := V9.other W17 (Ne.symm dq_0b)
 have z24 : n0 ≤ h17.size := Nat.le_trans z15 (Nat.le_of_eq W17.size.symm)
 have kp25 : Keep h0 h17 [r0, tb] := kp16.wr W17 (Or.inl (List.mem_of_getElem? (i := 0) rfl))
 have N17 := Fr.snoc X17 N9 g_r0
 obtain ⟨fs, hr, hrun, hended, hW, hsame⟩ := X17.leave (v := some (.ref r0)) (fun h => by rw [Bd.returns] at h; cases h)
 refine ⟨_, _, G7 _ ?_, hrun, hended, _, _, rfl, ?_, ⟨_, rfl⟩, hW, hsame.mono (by decide) (by decide)⟩
 ·skip
  refine XS.ifNo X6.here hx rfl (hb hby d41_23) rfl ((if0 _ _).trans (feq (by decide)).1) ?_
  refine XS.lloadN X6.here hx rfl (hb hby d41_26) rfl ?_
  refine XS.iload X6.here hx rfl (hb hby d41_27) rfl ?_
  refine XS.aloadN X6.here hx rfl (hb hby d41_29) rfl rfl ?_
  refine st8 _ ?_
  refine st9 _ ?_
  refine XS.pop X9.here hx rfl (hb hby d41_36) rfl rfl ?_
  show Steps p.tables e below (T9.setTop (mkF m 37 #[rv r0, .val (.long q1), .second, iv 19, iv 20] [])) _
  refine XS.goto X9.here hx rfl (pc0 := 37) (pc' := 52) rfl (hb hby d41_37) (by decide) (by decide) ?_
  refine XS.aloadN X9.here hx rfl (hb hby d41_52) rfl rfl ?_
  refine XS.iload X9.here hx rfl (hb hby d41_53) rfl ?_
  refine st17 _ ?_
  refine XS.aloadN X17.here hx rfl (hb hby d41_58) rfl rfl ?_
  exact retOut X17 hx Bd.returns rfl (Or.inr (Or.inr (Or.inr (Or.inr ⟨rfl, rfl, rfl⟩)))) (hb hby d41_59) hr
 ·show QAJ41_19 Z r0 q1 tb kd vd cst fv h0 n0 _ T17.heap _
  rw [e17]
  exact ⟨rfl, N17, kp25, fa19, fa20, fa21, fa23⟩
theorem d40_0 : decode jdk_67_method_16_code 0 = .ok (.aload_n 0, 1) := by decide +kernel
theorem d40_1 : decode jdk_67_method_16_code 1 = .ok (.lload_n 1, 1) := by decide +kernel
theorem d40_2 : decode jdk_67_method_16_code 2 = .ok (.invokespecial 56, 3) := by decide +kernel
theorem pd_22 : parseMethodDescriptor "(J)Ljava/lang/AbstractStringBuilder;" = some ⟨[.long], some (.object "java/lang/AbstractStringBuilder")⟩ := by decide +kernel
theorem d40_5 : decode jdk_67_method_16_code 5 = .ok (.pop, 1) := by decide +kernel
theorem d40_6 : decode jdk_67_method_16_code 6 = .ok (.aload_n 0, 1) := by decide +kernel
theorem d40_7 : decode jdk_67_method_16_code 7 = .ok (.areturn, 1) := by decide +kernel
def QAJ40_18 (Z : State) (r0 : Addr) (q1 : Int64) (tb : Addr) (kd : ClassId) (vd : List Value) (cst : Int32) (fv : Value) (h0 : Heap) (n0 : Nat) (v : Option Value) (h : Heap) (L : List Loc) : Prop := v = some (.ref r0) ∧ Fr n0 L ∧ Keep h0 h [r0, tb] ∧ Fld Z h r0 "java/lang/AbstractStringBuilder" "count" "I" (.int (19 : Int32)) ∧ Fld Z h r0 "java/lang/AbstractStringBuilder" "coder" "B" (.int (0 : Int32)) ∧ Fld Z h r0 "java/lang/AbstractStringBuilder" "value" "[B" (.ref tb) ∧ Arv Z h tb kd .byte (34 : Int32) (own_gcl vd 19 q1.toInt.toNat) (.int (0 : Int32))
theorem ef_rmAJ40_18 (m : MethodId) (x0 : Addr) (x1 : Int64) : entryFrame m #[(.ref x0), (.long x1)] 3 = mkF m 0 #[.val (.ref x0), .val (.long x1), .second] [] := by first | (simp [entryFrame, mkF, argsToLocals, Value.category]; done) | rfl
set_option maxRecDepth 65536 in
set_option maxHeartbeats 40000000 in
theorem rmAJ40_18 (l : Launch) (Z : State) (a0 : Array Value) (hw : ∀ d ∈ tables_1, d.before a0 Z = true) (ws : List Jvm.Cond) (r0 : Addr) (q1 : Int64) (tb : Addr) (kd : ClassId) (vd : List Value) (cst : Int32) (fv : Value) (h0 : Heap) (n0 : Nat) (Z0 : n0 ≤ h0.size) (E0 : Exa Z h0 r0 "java/lang/StringBuilder") (Fn : Fld Z h0 r0 "java/lang/AbstractStringBuilder" "count" "I" (.int (18 : Int32))) (Fc : Fld Z h0 r0 "java/lang/AbstractStringBuilder" "coder" "B" (.int (0 : Int32))) (Fv : Fld Z h0 r0 "java/lang/AbstractStringBuilder" "value" "[B" (.ref tb)) (Vd : Arv Z h0 tb kd .byte (34 : Int32) vd (.int (0 : Int32))) (O0 : Old Z n0 h0) (g_r0 : n0 ≤ r0) (g_tb : n0 ≤ tb) (dq_0b : r0 ≠ tb) (hvl : vd.length = 34) (hr0 : ¬ (q1 < (0 : Int64))) (hr1 : q1.toInt.toNat < 10) (TB : own_TB Z) (SS : Sts Z cst fv) :
  MetFree l (⟨"java/lang/StringBuilder", "append", "(J)Ljava/lang/StringBuilder;"⟩ : MethodName) (head1 (Jvm.Cond.code (⟨"java/lang/StringBuilder", "append", "(J)Ljava/lang/StringBuilder;"⟩ : MethodName) jdk_67_method_16_code 3 (some (.object "java/lang/StringBuilder")) :: ws) ({ frames := 3, cells := 0, slots := 0, locals := 118 } : Room)) (fun a U => a = #[(.ref r0), (.long q1)] ∧ Z.Warmed39 U.vm ∧ U.heap = h0) (fun _ _ _ _ _ => True) (fun _ U o U' => ∃ v L, o = .returned v ∧ QAJ40_18 Z r0 q1 tb kd vd cst fv h0 n0 v U'.heap L ∧ FrameEnd U o U' L ({ frames := 3, cells := 0, slots := 0, locals := 118 } : Room).cells ({ frames := 3, cells := 0, slots := 0, locals := 118 } : Room).slots) := by
 refine MetFree.of_bodySF (plainFor_of_name pnc_java_lang_StringBuilder) hisR ?_
 intro p e s m args below meth c s₁ Bd hml0 hP hK
 obtain ⟨rfl, hZ, hh⟩ := hP
 have hx := Bd.exec
 have hby := Bd.bytes
 have hml : c.maxLocals = 3 := hml0
 have hown : s.vm.findClass "java/lang/StringBuilder" = some m.cls := findClass_of_methodNamed Bd.named
 have hnm := (name_of_methodNamed Bd.named Bd.method).1
 have X0 : Stand p l e ({ frames := 3, cells := 0, slots := 0, locals := 118 } : Room) s m #[(.ref r0), (.long q1)] below meth c s₁ [] 0 0 := Stand.of_body Bd
 have e0 : s₁.heap = h0 := by rw [← hh, Bd.state]; rfl
 have N0 := Fr.nil n0
 have kp0 : Keep h0 h0 [r0, tb] := Keep.refl _ _
 have G0 : ∀ t, Steps p.tables e below (s₁.setTop (mkF m 0 #[rv r0, .val (.long q1), .second] [])) t → Steps p.tables e below (s₁.setTop (entryFrame m #[(.ref r0), (.long q1)] 3)) t := fun t k => castTop (ef_rmAJ40_18 m r0 q1) k
 obtain ⟨_, _, ⟨T1, L1, k1, n1⟩, -, X1, ⟨Lc1, hQ1, l1, y1, z1⟩, st1⟩ := superBack X0 hx hZ (y := (⟨"java/lang/AbstractStringBuilder", "append", "(J)Ljava/lang/AbstractStringBuilder;"⟩ : MethodName)) hown (hq hw 221 rfl) (own_same (hq hw 222 rfl) (own_nf (hq hw 229 rfl) (hq hw 228 rfl) rfl) (by decide)) (hq hw 222 rfl) (hq hw 162 rfl) (by decide) (backOf (W := 0) (rmAJ41_18 l Z a0 hw [] r0 q1 tb kd vd cst fv h0 n0 Z0 E0 Fn Fc Fv Vd O0 g_r0 g_tb dq_0b hvl hr0 hr1 TB SS) hZ (hq hw 224 rfl) (hq hw 145 rfl) (by decide) (by decide)) e0 (Ins.self E0) (g := (mkF m 2 #[rv r0, .val (.long q1), .second] [(.long q1), (.ref r0)])) rfl (by rw [hml]; rfl) (hq hw 224 rfl) (argsL := [(.long q1)]) (rest := []) (lenOf pd_22 rfl) rfl (by show 2 * 0 + _ ≤ _; exact Nat.le_of_eq rfl) (hb hby d40_2) (fun _ _ => ⟨rfl, e0, (by decide : 0 + 0 ≤ _), (by decide : 0 + 0 ≤ _)⟩)
 dsimp only [Pt.U, Pt.locs, Pt.cells, Pt.slots] at X1 l1 y1 z1 st1 hQ1
 subst l1 y1 z1
 obtain ⟨rfl, N1q, K1, Fn1, Fc1, Fv1, V1⟩ := hQ1
 have N1 := Fr.app N0 N1q
 have fa2 := E0.keep K1
 have fa3 := O0.keep K1 (allS g_r0 (allS g_tb all0))
 have z4 : n0 ≤ T1.heap.size := Nat.le_trans Z0 K1.1
 have kp5 : Keep h0 T1.heap [r0, tb] := kp0.trans K1 (allS (Or.inl (List.mem_of_getElem? (i := 0) rfl)) (allS (Or.inl (List.mem_of_getElem? (i := 1) rfl)) all0))
 obtain ⟨fs, hr, hrun, hended, hW, hsame⟩ := X1.leave (v := some (.ref r0)) (fun h => by rw [Bd.returns] at h; cases h)
 refine ⟨_, _, G0 _ ?_, hrun, hended, _, _, rfl, ?_, ⟨_, rfl⟩, hW, hsame.mono (by decide) (by decide)⟩
 ·skip
  refine XS.aloadN X0.here hx rfl (hb hby d40_0) rfl rfl ?_
  refine XS.lloadN X0.here hx rfl (hb hby d40_1) rfl ?_
  refine st1.trans ?_
  refine XS.pop X1.here hx rfl (hb hby d40_5) rfl rfl ?_
  refine XS.aloadN X1.here hx rfl (hb hby d40_6) rfl rfl ?_
  exact retOut X1 hx Bd.returns rfl (Or.inr (Or.inr (Or.inr (Or.inr ⟨rfl, rfl, rfl⟩)))) (hb hby d40_7) hr
 ·show QAJ40_18 Z r0 q1 tb kd vd cst fv h0 n0 _ T1.heap _
  exact ⟨rfl, N1, kp5, Fn1, Fc1, Fv1, V1⟩
def QAJ40_19 (Z : State) (r0 : Addr) (q1 : Int64) (tb : Addr) (kd : ClassId) (vd : List Value) (cst : Int32) (fv : Value) (h0 : Heap) (n0 : Nat) (v : Option Value) (h : Heap) (L : List Loc) : Prop := v = some (.ref r0) ∧ Fr n0 L ∧ Keep h0 h [r0, tb] ∧ Fld Z h r0 "java/lang/AbstractStringBuilder" "count" "I" (.int (20 : Int32)) ∧ Fld Z h r0 "java/lang/AbstractStringBuilder" "coder" "B" (.int (0 : Int32)) ∧ Fld Z h r0 "java/lang/AbstractStringBuilder" "value" "[B" (.ref tb) ∧ Arv Z h tb kd .byte (34 : Int32) (own_gcl vd 20 q1.toInt.toNat) (.int (0 : Int32))
theorem ef_rmAJ40_19 (m : MethodId) (x0 : Addr) (x1 : Int64) : entryFrame m #[(.ref x0), (.long x1)] 3 = mkF m 0 #[.val (.ref x0), .val (.long x1), .second] [] := by first | (simp [entryFrame, mkF, argsToLocals, Value.category]; done) | rfl
set_option maxRecDepth 65536 in
set_option maxHeartbeats 40000000 in
theorem rmAJ40_19 (l : Launch) (Z : State) (a0 : Array Value) (hw : ∀ d ∈ tables_1, d.before a0 Z = true) (ws : List Jvm.Cond) (r0 : Addr) (q1 : Int64) (tb : Addr) (kd : ClassId) (vd : List Value) (cst : Int32) (fv : Value) (h0 : Heap) (n0 : Nat) (Z0 : n0 ≤ h0.size) (E0 : Exa Z h0 r0 "java/lang/StringBuilder") (Fn : Fld Z h0 r0 "java/lang/AbstractStringBuilder" "count" "I" (.int (19 : Int32))) (Fc : Fld Z h0 r0 "java/lang/AbstractStringBuilder" "coder" "B" (.int (0 : Int32))) (Fv : Fld Z h0 r0 "java/lang/AbstractStringBuilder" "value" "[B" (.ref tb)) (Vd : Arv Z h0 tb kd .byte (34 : Int32) vd (.int (0 : Int32))) (O0 : Old Z n0 h0) (g_r0 : n0 ≤ r0) (g_tb : n0 ≤ tb) (dq_0b : r0 ≠ tb) (hvl : vd.length = 34) (hr0 : ¬ (q1 < (0 : Int64))) (hr1 : q1.toInt.toNat < 10) (TB : own_TB Z) (SS : Sts Z cst fv) :
  MetFree l (⟨"java/lang/StringBuilder", "append", "(J)Ljava/lang/StringBuilder;"⟩ : MethodName) (head1 (Jvm.Cond.code (⟨"java/lang/StringBuilder", "append", "(J)Ljava/lang/StringBuilder;"⟩ : MethodName) jdk_67_method_16_code 3 (some (.object "java/lang/StringBuilder")) :: ws) ({ frames := 3, cells := 0, slots := 0, locals := 118 } : Room)) (fun a U => a = #[(.ref r0), (.long q1)] ∧ Z.Warmed39 U.vm ∧ U.heap = h0) (fun _ _ _ _ _ => True) (fun _ U o U' => ∃ v L, o = .returned v ∧ QAJ40_19 Z r0 q1 tb kd vd cst fv h0 n0 v U'.heap L ∧ FrameEnd U o U' L ({ frames := 3, cells := 0, slots := 0, locals := 118 } : Room).cells ({ frames := 3, cells := 0, slots := 0, locals := 118 } : Room).slots) := by
 refine MetFree.of_bodySF (plainFor_of_name pnc_java_lang_StringBuilder) hisR ?_
 intro p e s m args below meth c s₁ Bd hml0 hP hK
 obtain ⟨rfl, hZ, hh⟩ := hP
 have hx := Bd.exec
 have hby := Bd.bytes
 have hml : c.maxLocals = 3 := hml0
 have hown : s.vm.findClass "java/lang/StringBuilder" = some m.cls := findClass_of_methodNamed Bd.named
 have hnm := (name_of_methodNamed Bd.named Bd.method).1
 have X0 : Stand p l e ({ frames := 3, cells := 0, slots := 0, locals := 118 } : Room) s m #[(.ref r0), (.long q1)] below meth c s₁ [] 0 0 := Stand.of_body Bd
 have e0 : s₁.heap = h0 := by rw [← hh, Bd.state]; rfl
 have N0 := Fr.nil n0
 have kp0 : Keep h0 h0 [r0, tb] := Keep.refl _ _
 have G0 : ∀ t, Steps p.tables e below (s₁.setTop (mkF m 0 #[rv r0, .val (.long q1), .second] [])) t → Steps p.tables e below (s₁.setTop (entryFrame m #[(.ref r0), (.long q1)] 3)) t := fun t k => castTop (ef_rmAJ40_19 m r0 q1) k
 obtain ⟨_, _, ⟨T1, L1, k1, n1⟩, -, X1, ⟨Lc1, hQ1, l1, y1, z1⟩, st1⟩ := superBack X0 hx hZ (y := (⟨"java/lang/AbstractStringBuilder", "append", "(J)Ljava/lang/AbstractStringBuilder;"⟩ : MethodName)) hown (hq hw 221 rfl) (own_same (hq hw 222 rfl) (own_nf (hq hw 229 rfl) (hq hw 228 rfl) rfl) (by decide)) (hq hw 222 rfl) (hq hw 162 rfl) (by decide) (backOf (W := 0) (rmAJ41_19 l Z a0 hw [] r0 q1 tb kd vd cst fv h0 n0 Z0 E0 Fn Fc Fv Vd O0 g_r0 g_tb dq_0b hvl hr0 hr1 TB SS) hZ (hq hw 224 rfl) (hq hw 145 rfl) (by decide) (by decide)) e0 (Ins.self E0) (g := (mkF m 2 #[rv r0, .val (.long q1), .second] [(.long q1), (.ref r0)])) rfl (by rw [hml]; rfl) (hq hw 224 rfl) (argsL := [(.long q1)]) (rest := []) (lenOf pd_22 rfl) rfl (by show 2 * 0 + _ ≤ _; exact Nat.le_of_eq rfl) (hb hby d40_2) (fun _ _ => ⟨rfl, e0, (by decide : 0 + 0 ≤ _), (by decide : 0 + 0 ≤ _)⟩)
 dsimp only [Pt.U, Pt.locs, Pt.cells, Pt.slots] at X1 l1 y1 z1 st1 hQ1
 subst l1 y1 z1
 obtain ⟨rfl, N1q, K1, Fn1, Fc1, Fv1, V1⟩ := hQ1
 have N1 := Fr.app N0 N1q
 have fa2 := E0.keep K1
 have fa3 := O0.keep K1 (allS g_r0 (allS g_tb all0))
 have z4 : n0 ≤ T1.heap.size := Nat.le_trans Z0 K1.1
 have kp5 : Keep h0 T1.heap [r0, tb] := kp0.trans K1 (allS (Or.inl (List.mem_of_getElem? (i := 0) rfl)) (allS (Or.inl (List.mem_of_getElem? (i := 1) rfl)) all0))
 obtain ⟨fs, hr, hrun, hended, hW, hsame⟩ := X1.leave (v := some (.ref r0)) (fun h => by rw [Bd.returns] at h; cases h)
 refine ⟨_, _, G0 _ ?_, hrun, hended, _, _, rfl, ?_, ⟨_, rfl⟩, hW, hsame.mono (by decide) (by decide)⟩
 ·skip
  refine XS.aloadN X0.here hx rfl (hb hby d40_0) rfl rfl ?_
  refine XS.lloadN X0.here hx rfl (hb hby d40_1) rfl ?_
  refine st1.trans ?_
  refine XS.pop X1.here hx rfl (hb hby d40_5) rfl rfl ?_
  refine XS.aloadN X1.here hx rfl (hb hby d40_6) rfl rfl ?_
  exact retOut X1 hx Bd.returns rfl (Or.inr (Or.inr (Or.inr (Or.inr ⟨rfl, rfl, rfl⟩)))) (hb hby d40_7) hr
 ·show QAJ40_19 Z r0 q1 tb kd vd cst fv h0 n0 _ T1.heap _
  exact ⟨rfl, N1, kp5, Fn1, Fc1, Fv1, V1⟩
theorem d46_0 : decode jdk_68_method_64_code 0 = .ok (.aload_n 0, 1) := by decide +kernel
theorem d46_1 : decode jdk_68_method_64_code 1 = .ok (.getfield 15, 3) := by decide +kernel
theorem d46_4 : decode jdk_68_method_64_code 4 = .ok (.areturn, 1) := by decide +kernel
def Q46 (Z : State) (r0 : Addr) (tb : Addr) (h0 : Heap) (n0 : Nat) (v : Option Value) (h : Heap) (L : List Loc) : Prop := v = some (.ref tb) ∧ Fr n0 L ∧ h = h0
theorem ef_rm46 (m : MethodId) (x0 : Addr) : entryFrame m #[(.ref x0)] 1 = mkF m 0 #[.val (.ref x0)] [] := by first | (simp [entryFrame, mkF, argsToLocals, Value.category]; done) | rfl
set_option maxRecDepth 65536 in
set_option maxHeartbeats 40000000 in
theorem rm46 (l : Launch) (Z : State) (a0 : Array Value) (hw : ∀ d ∈ tables_1, d.before a0 Z = true) (ws : List Jvm.Cond) (r0 : Addr) (tb : Addr) (h0 : Heap) (n0 : Nat) (Z0 : n0 ≤ h0.size) (Fv : Fld Z h0 r0 "java/lang/AbstractStringBuilder" "value" "[B" (.ref tb)) :
  MetFree l (⟨"java/lang/AbstractStringBuilder", "getValue", "()[B"⟩ : MethodName) (head1 (Jvm.Cond.code (⟨"java/lang/AbstractStringBuilder", "getValue", "()[B"⟩ : MethodName) jdk_68_method_64_code 1 (some (.array .byte)) :: ws) ({ frames := 0, cells := 0, slots := 0, locals := 0 } : Room)) (fun a U => a = #[(.ref r0)] ∧ Z.Warmed39 U.vm ∧ U.heap = h0) (fun _ _ _ _ _ => True) (fun _ U o U' => ∃ v L, o = .returned v ∧ Q46 Z r0 tb h0 n0 v U'.heap L ∧ FrameEnd U o U' L ({ frames := 0, cells := 0, slots := 0, locals := 0 } : Room).cells ({ frames := 0, cells := 0, slots := 0, locals := 0 } : Room).slots) := by
 refine MetFree.of_bodySF (plainFor_of_name pnc_java_lang_AbstractStringBuilder) hisR ?_
 intro p e s m args below meth c s₁ Bd hml0 hP hK
 obtain ⟨rfl, hZ, hh⟩ := hP
 have hx := Bd.exec
 have hby := Bd.bytes
 have hml : c.maxLocals = 1 := hml0
 have hown : s.vm.findClass "java/lang/AbstractStringBuilder" = some m.cls := findClass_of_methodNamed Bd.named
 have hnm := (name_of_methodNamed Bd.named Bd.method).1
 have X0 : Stand p l e ({ frames := 0, cells := 0, slots := 0, locals := 0 } : Room) s m #[(.ref r0)] below meth c s₁ [] 0 0 := Stand.of_body Bd
 have e0 : s₁.heap = h0 := by rw [← hh, Bd.state]; rfl
 have N0 := Fr.nil n0
 have kp0 : Keep h0 h0 [] := Keep.refl _ _
 have G0 : ∀ t, Steps p.tables e below (s₁.setTop (mkF m 0 #[rv r0] [])) t → Steps p.tables e below (s₁.setTop (entryFrame m #[(.ref r0)] 1)) t := fun t k => castTop (ef_rm46 m r0) k
 obtain ⟨T1, X1, e1, st1⟩ := getF X0 hx hZ hown (host := "") (Or.inl (hq hw 149 rfl)) Via.refl e0 Fv (g := (mkF m 1 #[rv r0] [(.ref r0)])) rfl rfl (hb hby d46_1)
 obtain ⟨fs, hr, hrun, hended, hW, hsame⟩ := X1.leave (v := some (.ref tb)) (fun h => by rw [Bd.returns] at h; cases h)
 refine ⟨_, _, G0 _ ?_, hrun, hended, _, _, rfl, ?_, ⟨_, rfl⟩, hW, hsame.mono (by decide) (by decide)⟩
 ·skip
  refine XS.aloadN X0.here hx rfl (hb hby d46_0) rfl rfl ?_
  refine st1 _ ?_
  exact retOut X1 hx Bd.returns rfl (Or.inr (Or.inr (Or.inr (Or.inr ⟨rfl, rfl, rfl⟩)))) (hb hby d46_4) hr
 ·show Q46 Z r0 tb h0 n0 _ T1.heap _
  rw [e1]
  exact ⟨rfl, N0, rfl⟩
theorem d48_0 : decode jdk_68_method_6_code 0 = .ok (.aload_n 0, 1) := by decide +kernel
theorem d48_1 : decode jdk_68_method_6_code 1 = .ok (.getfield 79, 3) := by decide +kernel
theorem d48_4 : decode jdk_68_method_6_code 4 = .ok (.ireturn, 1) := by decide +kernel
def Q48 (Z : State) (r0 : Addr) (cn : Int32) (h0 : Heap) (n0 : Nat) (v : Option Value) (h : Heap) (L : List Loc) : Prop := v = some (.int cn) ∧ Fr n0 L ∧ h = h0
theorem ef_rm48 (m : MethodId) (x0 : Addr) : entryFrame m #[(.ref x0)] 1 = mkF m 0 #[.val (.ref x0)] [] := by first | (simp [entryFrame, mkF, argsToLocals, Value.category]; done) | rfl
set_option maxRecDepth 65536 in
set_option maxHeartbeats 40000000 in
theorem rm48 (l : Launch) (Z : State) (a0 : Array Value) (hw : ∀ d ∈ tables_1, d.before a0 Z = true) (ws : List Jvm.Cond) (r0 : Addr) (cn : Int32) (h0 : Heap) (n0 : Nat) (Z0 : n0 ≤ h0.size) (Fn : Fld Z h0 r0 "java/lang/AbstractStringBuilder" "count" "I" (.int cn)) :
  MetFree l (⟨"java/lang/AbstractStringBuilder", "length", "()I"⟩ : MethodName) (head1 (Jvm.Cond.code (⟨"java/lang/AbstractStringBuilder", "length", "()I"⟩ : MethodName) jdk_68_method_6_code 1 (some .int) :: ws) ({ frames := 0, cells := 0, slots := 0, locals := 0 } : Room)) (fun a U => a = #[(.ref r0)] ∧ Z.Warmed39 U.vm ∧ U.heap = h0) (fun _ _ _ _ _ => True) (fun _ U o U' => ∃ v L, o = .returned v ∧ Q48 Z r0 cn h0 n0 v U'.heap L ∧ FrameEnd U o U' L ({ frames := 0, cells := 0, slots := 0, locals := 0 } : Room).cells ({ frames := 0, cells := 0, slots := 0, locals := 0 } : Room).slots) := by
 refine MetFree.of_bodySF (plainFor_of_name pnc_java_lang_AbstractStringBuilder) hisR ?_
 intro p e s m args below meth c s₁ Bd hml0 hP hK
 obtain ⟨rfl, hZ, hh⟩ := hP
 have hx := Bd.exec
 have hby := Bd.bytes
 have hml : c.maxLocals = 1 := hml0
 have hown : s.vm.findClass "java/lang/AbstractStringBuilder" = some m.cls := findClass_of_methodNamed Bd.named
 have hnm := (name_of_methodNamed Bd.named Bd.method).1
 have X0 : Stand p l e ({ frames := 0, cells := 0, slots := 0, locals := 0 } : Room) s m #[(.ref r0)] below meth c s₁ [] 0 0 := Stand.of_body Bd
 have e0 : s₁.heap = h0 := by rw [← hh, Bd.state]; rfl
 have N0 := Fr.nil n0
 have kp0 : Keep h0 h0 [] := Keep.refl _ _
 have G0 : ∀ t, Steps p.tables e below (s₁.setTop (mkF m 0 #[rv r0] [])) t → Steps p.tables e below (s₁.setTop (entryFrame m #[(.ref r0)] 1)) t := fun t k => castTop (ef_rm48 m r0) k
 obtain ⟨T1, X1, e1, st1⟩ := getF X0 hx hZ hown (host := "") (Or.inl (hq hw 166 rfl)) Via.refl e0 Fn (g := (mkF m 1 #[rv r0] [(.ref r0)])) rfl rfl (hb hby d48_1)
 obtain ⟨fs, hr, hrun, hended, hW, hsame⟩ := X1.leave (v := some (.int cn)) (fun h => by rw [Bd.returns] at h; cases h)
 refine ⟨_, _, G0 _ ?_, hrun, hended, _, _, rfl, ?_, ⟨_, rfl⟩, hW, hsame.mono (by decide) (by decide)⟩
 ·skip
  refine XS.aloadN X0.here hx rfl (hb hby d48_0) rfl rfl ?_
  refine st1 _ ?_
  exact retI X1 hx Bd.returns (hb hby d48_4) hr
 ·show Q48 Z r0 cn h0 n0 _ T1.heap _
  rw [e1]
  exact ⟨rfl, N0, rfl⟩
theorem d47_0 : decode jdk_67_method_93_code 0 = .ok (.aload_n 0, 1) := by decide +kernel
theorem d47_1 : decode jdk_67_method_93_code 1 = .ok (.invokespecial 343, 3) := by decide +kernel
theorem d47_4 : decode jdk_67_method_93_code 4 = .ok (.ireturn, 1) := by decide +kernel
def Q47 (Z : State) (r0 : Addr) (cn : Int32) (h0 : Heap) (n0 : Nat) (v : Option Value) (h : Heap) (L : List Loc) : Prop := v = some (.int cn) ∧ Fr n0 L ∧ h = h0
theorem ef_rm47 (m : MethodId) (x0 : Addr) : entryFrame m #[(.ref x0)] 1 = mkF m 0 #[.val (.ref x0)] [] := by first | (simp [entryFrame, mkF, argsToLocals, Value.category]; done) | rfl
set_option maxRecDepth 65536 in
set_option maxHeartbeats 40000000 in
theorem rm47 (l : Launch) (Z : State) (a0 : Array Value) (hw : ∀ d ∈ tables_1, d.before a0 Z = true) (ws : List Jvm.Cond) (r0 : Addr) (cn : Int32) (h0 : Heap) (n0 : Nat) (Z0 : n0 ≤ h0.size) (E0 : Exa Z h0 r0 "java/lang/StringBuilder") (Fn : Fld Z h0 r0 "java/lang/AbstractStringBuilder" "count" "I" (.int cn)) :
  MetFree l (⟨"java/lang/StringBuilder", "length", "()I"⟩ : MethodName) (head1 (Jvm.Cond.code (⟨"java/lang/StringBuilder", "length", "()I"⟩ : MethodName) jdk_67_method_93_code 1 (some .int) :: ws) ({ frames := 1, cells := 0, slots := 0, locals := 12 } : Room)) (fun a U => a = #[(.ref r0)] ∧ Z.Warmed39 U.vm ∧ U.heap = h0) (fun _ _ _ _ _ => True) (fun _ U o U' => ∃ v L, o = .returned v ∧ Q47 Z r0 cn h0 n0 v U'.heap L ∧ FrameEnd U o U' L ({ frames := 1, cells := 0, slots := 0, locals := 12 } : Room).cells ({ frames := 1, cells := 0, slots := 0, locals := 12 } : Room).slots) := by
 refine MetFree.of_bodySF (plainFor_of_name pnc_java_lang_StringBuilder) hisR ?_
 intro p e s m args below meth c s₁ Bd hml0 hP hK
 obtain ⟨rfl, hZ, hh⟩ := hP
 have hx := Bd.exec
 have hby := Bd.bytes
 have hml : c.maxLocals = 1 := hml0
 have hown : s.vm.findClass "java/lang/StringBuilder" = some m.cls := findClass_of_methodNamed Bd.named
 have hnm := (name_of_methodNamed Bd.named Bd.method).1
 have X0 : Stand p l e ({ frames := 1, cells := 0, slots := 0, locals := 12 } : Room) s m #[(.ref r0)] below meth c s₁ [] 0 0 := Stand.of_body Bd
 have e0 : s₁.heap = h0 := by rw [← hh, Bd.state]; rfl
 have N0 := Fr.nil n0
 have kp0 : Keep h0 h0 [] := Keep.refl _ _
 have G0 : ∀ t, Steps p.tables e below (s₁.setTop (mkF m 0 #[rv r0] [])) t → Steps p.tables e below (s₁.setTop (entryFrame m #[(.ref r0)] 1)) t := fun t k => castTop (ef_rm47 m r0) k
 obtain ⟨_, _, ⟨T1, L1, k1, n1⟩, -, X1, ⟨Lc1, hQ1, l1, y1, z1⟩, st1⟩ := superBack X0 hx hZ (y := (⟨"java/lang/AbstractStringBuilder", "length", "()I"⟩ : MethodName)) hown (hq hw 255 rfl) (own_same (hq hw 251 rfl) (own_nf (hq hw 229 rfl) (hq hw 228 rfl) rfl) (by decide)) (hq hw 251 rfl) (hq hw 162 rfl) (by decide) (backOf (W := 0) (rm48 l Z a0 hw [] r0 cn h0 n0 Z0 Fn ) hZ (hq hw 256 rfl) (hq hw 145 rfl) (by decide) (by decide)) e0 (Ins.self E0) (g := (mkF m 1 #[rv r0] [(.ref r0)])) rfl (by rw [hml]; rfl) (hq hw 256 rfl) (argsL := []) (rest := []) (lenOf pd_19 rfl) rfl (by show 2 * 0 + _ ≤ _; exact Nat.le_of_eq rfl) (hb hby d47_1) (fun _ _ => ⟨rfl, e0, (by decide : 0 + 0 ≤ _), (by decide : 0 + 0 ≤ _)⟩)
 dsimp only [Pt.U, Pt.locs, Pt.cells, Pt.slots] at X1 l1 y1 z1 st1 hQ1
 subst l1 y1 z1
 obtain ⟨rfl, N1q, eh1⟩ := hQ1
 have N1 := Fr.app N0 N1q
 obtain ⟨fs, hr, hrun, hended, hW, hsame⟩ := X1.leave (v := some (.int cn)) (fun h => by rw [Bd.returns] at h; cases h)
 refine ⟨_, _, G0 _ ?_, hrun, hended, _, _, rfl, ?_, ⟨_, rfl⟩, hW, hsame.mono (by decide) (by decide)⟩
 ·skip
  refine XS.aloadN X0.here hx rfl (hb hby d47_0) rfl rfl ?_
  refine st1.trans ?_
  exact retI X1 hx Bd.returns (hb hby d47_4) hr
 ·show Q47 Z r0 cn h0 n0 _ T1.heap _
  rw [eh1]
  exact ⟨rfl, N1, rfl⟩
theorem d50_0 : decode jdk_65_method_133_code 0 = .ok (.iload_n 1, 1) := by decide +kernel
theorem d50_1 : decode jdk_65_method_133_code 1 = .ok (.iload_n 2, 1) := by decide +kernel
theorem d50_2 : decode jdk_65_method_133_code 2 = .ok (.invokestatic 343, 3) := by decide +kernel
theorem d50_5 : decode jdk_65_method_133_code 5 = .ok (.iload_n 2, 1) := by decide +kernel
theorem d50_6 : decode jdk_65_method_133_code 6 = .ok (.iload_n 1, 1) := by decide +kernel
theorem d50_7 : decode jdk_65_method_133_code 7 = .ok (.isub, 1) := by decide +kernel
theorem d50_8 : decode jdk_65_method_133_code 8 = .ok (.istore_n 3, 1) := by decide +kernel
theorem d50_9 : decode jdk_65_method_133_code 9 = .ok (.iload_n 3, 1) := by decide +kernel
theorem d50_10 : decode jdk_65_method_133_code 10 = .ok (.newarray .byte, 2) := by decide +kernel
theorem d50_12 : decode jdk_65_method_133_code 12 = .ok (.astore 4, 2) := by decide +kernel
theorem d50_14 : decode jdk_65_method_133_code 14 = .ok (.aload_n 0, 1) := by decide +kernel
theorem d50_15 : decode jdk_65_method_133_code 15 = .ok (.iload_n 1, 1) := by decide +kernel
theorem d50_16 : decode jdk_65_method_133_code 16 = .ok (.aload 4, 2) := by decide +kernel
theorem d50_18 : decode jdk_65_method_133_code 18 = .ok (.iconst 0, 1) := by decide +kernel
theorem d50_19 : decode jdk_65_method_133_code 19 = .ok (.aload_n 0, 1) := by decide +kernel
theorem d50_20 : decode jdk_65_method_133_code 20 = .ok (.arraylength, 1) := by decide +kernel
theorem d50_21 : decode jdk_65_method_133_code 21 = .ok (.iload_n 1, 1) := by decide +kernel
theorem d50_22 : decode jdk_65_method_133_code 22 = .ok (.isub, 1) := by decide +kernel
theorem d50_23 : decode jdk_65_method_133_code 23 = .ok (.iload_n 3, 1) := by decide +kernel
theorem d50_24 : decode jdk_65_method_133_code 24 = .ok (.invokestatic 304, 3) := by decide +kernel
theorem d50_27 : decode jdk_65_method_133_code 27 = .ok (.invokestatic 150, 3) := by decide +kernel
theorem d50_30 : decode jdk_65_method_133_code 30 = .ok (.aload 4, 2) := by decide +kernel
theorem d50_32 : decode jdk_65_method_133_code 32 = .ok (.areturn, 1) := by decide +kernel
def QCB19 (Z : State) (r0 : Addr) (kd : ClassId) (vd : List Value) (h0 : Heap) (n0 : Nat) (v : Option Value) (h : Heap) (L : List Loc) : Prop := ∃ (b : Addr) (k : ClassId), v = some (.ref b) ∧ Fr n0 L ∧ Keep h0 h [] ∧ n0 ≤ b ∧ h0.size ≤ b ∧ Arv Z h b k .byte (19 : Int32) (own_cp (List.replicate 19 (Value.int (0 : Int32))) vd (0 : Int32) (19 : Int32)) (.int (0 : Int32))
theorem ef_rmCB19 (m : MethodId) (x0 : Addr) (x1 : Int32) (x2 : Int32) : entryFrame m #[(.ref x0), (.int x1), (.int x2)] 5 = mkF m 0 #[.val (.ref x0), .val (.int x1), .val (.int x2), .unset, .unset] [] := by first | (simp [entryFrame, mkF, argsToLocals, Value.category]; done) | rfl
set_option maxRecDepth 65536 in
set_option maxHeartbeats 40000000 in
theorem rmCB19 (l : Launch) (Z : State) (a0 : Array Value) (hw : ∀ d ∈ tables_1, d.before a0 Z = true) (ws : List Jvm.Cond) (r0 : Addr) (kd : ClassId) (vd : List Value) (h0 : Heap) (n0 : Nat) (Z0 : n0 ≤ h0.size) (Vd : Arv Z h0 r0 kd .byte (34 : Int32) vd (.int (0 : Int32))) :
  MetFree l (⟨"java/util/Arrays", "copyOfRangeByte", "([BII)[B"⟩ : MethodName) (head1 (Jvm.Cond.code (⟨"java/util/Arrays", "copyOfRangeByte", "([BII)[B"⟩ : MethodName) jdk_65_method_133_code 5 (some (.array .byte)) :: ws) ({ frames := 1, cells := 1, slots := 19, locals := 18 } : Room)) (fun a U => a = #[(.ref r0), (.int (0 : Int32)), (.int (19 : Int32))] ∧ Z.Warmed39 U.vm ∧ U.heap = h0) (fun _ _ _ _ _ => True) (fun _ U o U' => ∃ v L, o = .returned v ∧ QCB19 Z r0 kd vd h0 n0 v U'.heap L ∧ FrameEnd U o U' L ({ frames := 1, cells := 1, slots := 19, locals := 18 } : Room).cells ({ frames := 1, cells := 1, slots := 19, locals := 18 } : Room).slots) := by
 refine MetFree.of_bodySF (plainFor_of_name pnc_java_util_Arrays) hisR ?_
 intro p e s m args below meth c s₁ Bd hml0 hP hK
 obtain ⟨rfl, hZ, hh⟩ := hP
 have hx := Bd.exec
 have hby := Bd.bytes
 have hml : c.maxLocals = 5 := hml0
 have hown : s.vm.findClass "java/util/Arrays" = some m.cls := findClass_of_methodNamed Bd.named
 have hnm := (name_of_methodNamed Bd.named Bd.method).1
 have X0 : Stand p l e ({ frames := 1, cells := 1, slots := 19, locals := 18 } : Room) s m #[(.ref r0), (.int (0 : Int32)), (.int (19 : Int32))] below meth c s₁ [] 0 0 := Stand.of_body Bd
 have e0 : s₁.heap = h0 := by rw [← hh, Bd.state]; rfl
 have N0 := Fr.nil n0
 have kp0 : Keep h0 h0 [] := Keep.refl _ _
 have G0 : ∀ t, Steps p.tables e below (s₁.setTop (mkF m 0 #[rv r0, iv 0, iv 19, .unset, .unset] [])) t → Steps p.tables e below (s₁.setTop (entryFrame m #[(.ref r0), (.int (0 : Int32)), (.int (19 : Int32))] 5)) t := fun t k => castTop (ef_rmCB19 m r0 (0 : Int32) (19 : Int32)) k
 obtain ⟨_, _, ⟨T1, L1, k1, n1⟩, -, X1, ⟨Lc1, hQ1, l1, y1, z1⟩, st1⟩ := Jvm.LawKit.callS X0 hx (y := (⟨"java/util/Arrays", "checkLength", "(II)V"⟩ : MethodName)) hown (mvT hZ (hq hw 264 rfl)) (mvT hZ (hq hw 265 rfl)) (mvT hZ (hq hw 190 rfl)) (mvT hZ (hq hw 266 rfl)) (by decide) (backOf (W := 0) (rmL51_0_19 l Z a0 hw []   h0 n0 Z0  ) hZ (hq hw 266 rfl) (hq hw 190 rfl) (by decide) (by decide)) (g := (mkF m 2 #[rv r0, iv 0, iv 19, .unset, .unset] [(.int (19 : Int32)), (.int (0 : Int32))])) rfl (by rw [hml]; rfl) (argsL := [(.int (0 : Int32)), (.int (19 : Int32))]) (rest := []) (lenOf pd_2 rfl) rfl (by show 2 * 0 + _ ≤ _; exact Nat.le_of_eq rfl) (hb hby d50_2) (fun _ _ => ⟨rfl, e0, (by decide : 0 + 0 ≤ _), (by decide : 0 + 0 ≤ _)⟩)
 dsimp only [Pt.U, Pt.locs, Pt.cells, Pt.slots] at X1 l1 y1 z1 st1 hQ1
 subst l1 y1 z1
 obtain ⟨rfl, N1q, eh1⟩ := hQ1
 have N1 := Fr.app N0 N1q
 obtain ⟨T2, h2, k2, X2, e2, E2, A2, st2⟩ := newP X1 hx hZ (hq hw 8 rfl) eh1 (g := (mkF m 10 #[rv r0, iv 0, iv 19, iv 19, .unset] [(.int (19 : Int32))])) rfl (hb hby d50_10) rfl (by decide) (cap := 19) (by decide) (by decide) (by decide) (by decide)
 obtain ⟨b2, g2⟩ : ∃ z, z = h0.size := ⟨_, rfl⟩
 rw [← g2] at A2 st2
 have g_b2 : n0 ≤ b2 := Nat.le_trans Z0 (Nat.le_of_eq g2.symm)
 have sz_b2 : h0.size ≤ b2 := Nat.le_trans kp0.1 (Nat.le_of_eq g2.symm)
 have ne_r0_b2 : r0 ≠ b2 := Nat.ne_of_lt (Nat.lt_of_lt_of_le Vd.lt (Nat.le_of_eq g2.symm))
 have fa3 := Vd.ext E2
 have z4 : n0 ≤ h2.size := Nat.le_trans Z0 E2.1
 have kp5 : Keep h0 h2 [] := kp0.ext E2
 have fa6 : Arv Z h2 b2 k2 .byte (19 : Int32) [(.int (0 : Int32)), (.int (0 : Int32)), (.int (0 : Int32)), (.int (0 : Int32)), (.int (0 : Int32)), (.int (0 : Int32)), (.int (0 : Int32)), (.int (0 : Int32)), (.int (0 : Int32)), (.int (0 : Int32)), (.int (0 : Int32)), (.int (0 : Int32)), (.int (0 : Int32)), (.int (0 : Int32)), (.int (0 : Int32)), (.int (0 : Int32)), (.int (0 : Int32)), (.int (0 : Int32)), (.int (0 : Int32))] (.int (0 : Int32)) := (Arv.new A2 (by decide)).pad (pad_rep [] (.int (0 : Int32)) 19)
 obtain ⟨cl7, Ar7, q7, S7, M7, H7, G7⟩ := id fa3
 obtain ⟨_, _, ⟨T8, L8, k8, n8⟩, -, X8, ⟨Lc8, hQ8, l8, y8, z8⟩, st8⟩ := Jvm.LawKit.callS X2 hx (y := (⟨"java/lang/Math", "min", "(II)I"⟩ : MethodName)) hown (mvT hZ (hq hw 192 rfl)) (mvT hZ (hq hw 193 rfl)) (mvT hZ (hq hw 184 rfl)) (mvT hZ (hq hw 194 rfl)) (by decide) (backOf (W := 4) (rmL36_34_19 l Z a0 hw []   h2 n0 z4  ) hZ (hq hw 194 rfl) (hq hw 184 rfl) (by decide) (by decide)) (g := (mkF m 24 #[rv r0, iv 0, iv 19, iv 19, rv b2] [(.int (19 : Int32)), (.int (34 : Int32)), (.int (0 : Int32)), (.ref b2), (.int (0 : Int32)), (.ref r0)])) rfl (by rw [hml]; rfl) (argsL := [(.int (34 : Int32)), (.int (19 : Int32))]) (rest := [(.int (0 : Int32)), (.ref b2), (.int (0 : Int32)), (.ref r0)]) (lenOf pd_12 rfl) rfl (by show 2 * 0 + _ ≤ _; exact Nat.le_of_eq rfl) (hb hby d50_24) (fun _ _ => ⟨rfl, e2, (by decide : 1 + 0 ≤ _), (by decide : 19 + 0 ≤ _)⟩)
 dsimp only [Pt.U, Pt.locs, Pt.cells, Pt.slots] at X8 l8 y8 z8 st8 hQ8
 subst l8 y8 z8
 obtain ⟨rfl, N8q, eh8⟩ := hQ8
 have N8 := Fr.app N1 N8q
 obtain ⟨T9, h9, L9, X9, e9, N9, K9, V9, st9⟩ := cpA X8 hx hZ hown (hq hw 195 rfl) (hq hw 198 rfl) (hq hw 196 rfl) (hq hw 197 rfl) eh8 fa3 fa6 (Or.inl ⟨rfl, rfl⟩) (sp := (0 : Int32)) (dp := (0 : Int32)) (nn := (19 : Int32)) (by decide) (by decide) (by decide) (by decide) (by decide) rfl (by decide) N8 g_b2 (g := (mkF m 27 #[rv r0, iv 0, iv 19, iv 19, rv b2] [(.int (19 : Int32)), (.int (0 : Int32)), (.ref b2), (.int (0 : Int32)), (.ref r0)])) rfl (by rw [hml]; rfl) rfl (hb hby d50_27) (by decide) (W := 0) (by show 2 * 0 + _ ≤ _; exact Nat.le_of_eq rfl) (by decide)
 have fa10 := fa3.keep K9 (ninS ne_r0_b2 nin0)
 have z11 : n0 ≤ h9.size := Nat.le_trans z4 K9.1
 have kp12 : Keep h0 h9 [] := kp5.trans K9 (allS (Or.inr sz_b2) all0)
 have fa13 : Arv Z h9 b2 k2 .byte (19 : Int32) (own_cp (List.replicate 19 (Value.int (0 : Int32))) vd (0 : Int32) (19 : Int32)) (.int (0 : Int32)) := V9
 obtain ⟨fs, hr, hrun, hended, hW, hsame⟩ := X9.leave (v := some (.ref b2)) (fun h => by rw [Bd.returns] at h; cases h)
 refine ⟨_, _, G0 _ ?_, hrun, hended, _, _, rfl, ?_, ⟨_, rfl⟩, hW, hsame.mono (by decide) (by decide)⟩
 ·skip
  refine XS.iloadN X0.here hx rfl (hb hby d50_0) rfl ?_
  refine XS.iloadN X0.here hx rfl (hb hby d50_1) rfl ?_
  refine st1 _ ?_
  refine XS.iloadN X1.here hx rfl (hb hby d50_5) rfl ?_
  refine XS.iloadN X1.here hx rfl (hb hby d50_6) rfl ?_
  refine XS.isub X1.here hx rfl (hb hby d50_7) rfl ?_
  refine XS.istoreN X1.here hx rfl (hb hby d50_8) rfl (l' := #[rv r0, iv 0, iv 19, iv 19, .unset]) rfl ?_
  refine XS.iloadN X1.here hx rfl (hb hby d50_9) rfl ?_
  refine st2 _ ?_
  refine XS.astore X2.here hx rfl (hb hby d50_12) rfl rfl (l' := #[rv r0, iv 0, iv 19, iv 19, rv b2]) rfl ?_
  refine XS.aloadN X2.here hx rfl (hb hby d50_14) rfl rfl ?_
  refine XS.iloadN X2.here hx rfl (hb hby d50_15) rfl ?_
  refine XS.aload X2.here hx rfl (hb hby d50_16) rfl rfl ?_
  refine XS.iconst X2.here hx rfl (hb hby d50_18) ?_
  refine XS.aloadN X2.here hx rfl (hb hby d50_19) rfl rfl ?_
  refine X2.arraylength hx (by rw [e2]; exact Ar7.1) (State.isArrayOf_alike hZ.alike Ar7.2.1) (g := (mkF m 20 #[rv r0, iv 0, iv 19, iv 19, rv b2] [(.ref r0), (.int (0 : Int32)), (.ref b2), (.int (0 : Int32)), (.ref r0)])) rfl rfl (hb hby d50_20) _ ?_
  rw [len_of S7 M7]
  refine XS.iloadN X2.here hx rfl (hb hby d50_21) rfl ?_
  refine XS.isub X2.here hx rfl (hb hby d50_22) rfl ?_
  refine XS.iloadN X2.here hx rfl (hb hby d50_23) rfl ?_
  show Steps p.tables e below (T2.setTop (mkF m 24 #[rv r0, iv 0, iv 19, iv 19, rv b2] [(.int (19 : Int32)), (.int (34 : Int32)), (.int (0 : Int32)), (.ref b2), (.int (0 : Int32)), (.ref r0)])) _
  refine st8 _ ?_
  refine st9 _ ?_
  refine XS.aload X9.here hx rfl (hb hby d50_30) rfl rfl ?_
  exact retOut X9 hx Bd.returns rfl (Or.inr (Or.inr (Or.inr (Or.inr ⟨rfl, rfl, rfl⟩)))) (hb hby d50_32) hr
 ·show QCB19 Z r0 kd vd h0 n0 _ T9.heap _
  rw [e9]
  exact ⟨b2, k2, rfl, N9, kp12, g_b2, sz_b2, fa13⟩
def QCB20 (Z : State) (r0 : Addr) (kd : ClassId) (vd : List Value) (h0 : Heap) (n0 : Nat) (v : Option Value) (h : Heap) (L : List Loc) : Prop := ∃ (b : Addr) (k : ClassId), v = some (.ref b) ∧ Fr n0 L ∧ Keep h0 h [] ∧ n0 ≤ b ∧ h0.size ≤ b ∧ Arv Z h b k .byte (20 : Int32) (own_cp (List.replicate 20 (Value.int (0 : Int32))) vd (0 : Int32) (20 : Int32)) (.int (0 : Int32))
theorem ef_rmCB20 (m : MethodId) (x0 : Addr) (x1 : Int32) (x2 : Int32) : entryFrame m #[(.ref x0), (.int x1), (.int x2)] 5 = mkF m 0 #[.val (.ref x0), .val (.int x1), .val (.int x2), .unset, .unset] [] := by first | (simp [entryFrame, mkF, argsToLocals, Value.category]; done) | rfl
set_option maxRecDepth 65536 in
set_option maxHeartbeats 40000000 in
theorem rmCB20 (l : Launch) (Z : State) (a0 : Array Value) (hw : ∀ d ∈ tables_1, d.before a0 Z = true) (ws : List Jvm.Cond) (r0 : Addr) (kd : ClassId) (vd : List Value) (h0 : Heap) (n0 : Nat) (Z0 : n0 ≤ h0.size) (Vd : Arv Z h0 r0 kd .byte (34 : Int32) vd (.int (0 : Int32))) :
  MetFree l (⟨"java/util/Arrays", "copyOfRangeByte", "([BII)[B"⟩ : MethodName) (head1 (Jvm.Cond.code (⟨"java/util/Arrays", "copyOfRangeByte", "([BII)[B"⟩ : MethodName) jdk_65_method_133_code 5 (some (.array .byte)) :: ws) ({ frames := 1, cells := 1, slots := 20, locals := 18 } : Room)) (fun a U => a = #[(.ref r0), (.int (0 : Int32)), (.int (20 : Int32))] ∧ Z.Warmed39 U.vm ∧ U.heap = h0) (fun _ _ _ _ _ => True) (fun _ U o U' => ∃ v L, o = .returned v ∧ QCB20 Z r0 kd vd h0 n0 v U'.heap L ∧ FrameEnd U o U' L ({ frames := 1, cells := 1, slots := 20, locals := 18 } : Room).cells ({ frames := 1, cells := 1, slots := 20, locals := 18 } : Room).slots) := by
 refine MetFree.of_bodySF (plainFor_of_name pnc_java_util_Arrays) hisR ?_
 intro p e s m args below meth c s₁ Bd hml0 hP hK
 obtain ⟨rfl, hZ, hh⟩ := hP
 have hx := Bd.exec
 have hby := Bd.bytes
 have hml : c.maxLocals = 5 := hml0
 have hown : s.vm.findClass "java/util/Arrays" = some m.cls := findClass_of_methodNamed Bd.named
 have hnm := (name_of_methodNamed Bd.named Bd.method).1
 have X0 : Stand p l e ({ frames := 1, cells := 1, slots := 20, locals := 18 } : Room) s m #[(.ref r0), (.int (0 : Int32)), (.int (20 : Int32))] below meth c s₁ [] 0 0 := Stand.of_body Bd
 have e0 : s₁.heap = h0 := by rw [← hh, Bd.state]; rfl
 have N0 := Fr.nil n0
 have kp0 : Keep h0 h0 [] := Keep.refl _ _
 have G0 : ∀ t, Steps p.tables e below (s₁.setTop (mkF m 0 #[rv r0, iv 0, iv 20, .unset, .unset] [])) t → Steps p.tables e below (s₁.setTop (entryFrame m #[(.ref r0), (.int (0 : Int32)), (.int (20 : Int32))] 5)) t := fun t k => castTop (ef_rmCB20 m r0 (0 : Int32) (20 : Int32)) k
 obtain ⟨_, _, ⟨T1, L1, k1, n1⟩, -, X1, ⟨Lc1, hQ1, l1, y1, z1⟩, st1⟩ := Jvm.LawKit.callS X0 hx (y := (⟨"java/util/Arrays", "checkLength", "(II)V"⟩ : MethodName)) hown (mvT hZ (hq hw 264 rfl)) (mvT hZ (hq hw 265 rfl)) (mvT hZ (hq hw 190 rfl)) (mvT hZ (hq hw 266 rfl)) (by decide) (backOf (W := 0) (rmL51_0_20 l Z a0 hw []   h0 n0 Z0  ) hZ (hq hw 266 rfl) (hq hw 190 rfl) (by decide) (by decide)) (g := (mkF m 2 #[rv r0, iv 0, iv 20, .unset, .unset] [(.int (20 : Int32)), (.int (0 : Int32))])) rfl (by rw [hml]; rfl) (argsL := [(.int (0 : Int32)), (.int (20 : Int32))]) (rest := []) (lenOf pd_2 rfl) rfl (by show 2 * 0 + _ ≤ _; exact Nat.le_of_eq rfl) (hb hby d50_2) (fun _ _ => ⟨rfl, e0, (by decide : 0 + 0 ≤ _), (by decide : 0 + 0 ≤ _)⟩)
 dsimp only [Pt.U, Pt.locs, Pt.cells, Pt.slots] at X1 l1 y1 z1 st1 hQ1
 subst l1 y1 z1
 obtain ⟨rfl, N1q, eh1⟩ := hQ1
 have N1 := Fr.app N0 N1q
 obtain ⟨T2, h2, k2, X2, e2, E2, A2, st2⟩ := newP X1 hx hZ (hq hw 8 rfl) eh1 (g := (mkF m 10 #[rv r0, iv 0, iv 20, iv 20, .unset] [(.int (20 : Int32))])) rfl (hb hby d50_10) rfl (by decide) (cap := 20) (by decide) (by decide) (by decide) (by decide)
 obtain ⟨b2, g2⟩ : ∃ z, z = h0.size := ⟨_, rfl⟩
 rw [← g2] at A2 st2
 have g_b2 : n0 ≤ b2 := Nat.le_trans Z0 (Nat.le_of_eq g2.symm)
 have sz_b2 : h0.size ≤ b2 := Nat.le_trans kp0.1 (Nat.le_of_eq g2.symm)
 have ne_r0_b2 : r0 ≠ b2 := Nat.ne_of_lt (Nat.lt_of_lt_of_le Vd.lt (Nat.le_of_eq g2.symm))
 have fa3 := Vd.ext E2
 have z4 : n0 ≤ h2.size := Nat.le_trans Z0 E2.1
 have kp5 : Keep h0 h2 [] := kp0.ext E2
 have fa6 : Arv Z h2 b2 k2 .byte (20 : Int32) [(.int (0 : Int32)), (.int (0 : Int32)), (.int (0 : Int32)), (.int (0 : Int32)), (.int (0 : Int32)), (.int (0 : Int32)), (.int (0 : Int32)), (.int (0 : Int32)), (.int (0 : Int32)), (.int (0 : Int32)), (.int (0 : Int32)), (.int (0 : Int32)), (.int (0 : Int32)), (.int (0 : Int32)), (.int (0 : Int32)), (.int (0 : Int32)), (.int (0 : Int32)), (.int (0 : Int32)), (.int (0 : Int32)), (.int (0 : Int32))] (.int (0 : Int32)) := (Arv.new A2 (by decide)).pad (pad_rep [] (.int (0 : Int32)) 20)
 obtain ⟨cl7, Ar7, q7, S7, M7, H7, G7⟩ := id fa3
 obtain ⟨_, _, ⟨T8, L8, k8, n8⟩, -, X8, ⟨Lc8, hQ8, l8, y8, z8⟩, st8⟩ := Jvm.LawKit.callS X2 hx (y := (⟨"java/lang/Math", "min", "(II)I"⟩ : MethodName)) hown (mvT hZ (hq hw 192 rfl)) (mvT hZ (hq hw 193 rfl)) (mvT hZ (hq hw 184 rfl)) (mvT hZ (hq hw 194 rfl)) (by decide) (backOf (W := 4) (rmL36_34_20 l Z a0 hw []   h2 n0 z4  ) hZ (hq hw 194 rfl) (hq hw 184 rfl) (by decide) (by decide)) (g := (mkF m 24 #[rv r0, iv 0, iv 20, iv 20, rv b2] [(.int (20 : Int32)), (.int (34 : Int32)), (.int (0 : Int32)), (.ref b2), (.int (0 : Int32)), (.ref r0)])) rfl (by rw [hml]; rfl) (argsL := [(.int (34 : Int32)), (.int (20 : Int32))]) (rest := [(.int (0 : Int32)), (.ref b2), (.int (0 : Int32)), (.ref r0)]) (lenOf pd_12 rfl) rfl (by show 2 * 0 + _ ≤ _; exact Nat.le_of_eq rfl) (hb hby d50_24) (fun _ _ => ⟨rfl, e2, (by decide : 1 + 0 ≤ _), (by decide : 20 + 0 ≤ _)⟩)
 dsimp only [Pt.U, Pt.locs, Pt.cells, Pt.slots] at X8 l8 y8 z8 st8 hQ8
 subst l8 y8 z8
 obtain ⟨rfl, N8q, eh8⟩ := hQ8
 have N8 := Fr.app N1 N8q
 obtain ⟨T9, h9, L9, X9, e9, N9, K9, V9, st9⟩ := cpA X8 hx hZ hown (hq hw 195 rfl) (hq hw 198 rfl) (hq hw 196 rfl) (hq hw 197 rfl) eh8 fa3 fa6 (Or.inl ⟨rfl, rfl⟩) (sp := (0 : Int32)) (dp := (0 : Int32)) (nn := (20 : Int32)) (by decide) (by decide) (by decide) (by decide) (by decide) rfl (by decide) N8 g_b2 (g := (mkF m 27 #[rv r0, iv 0, iv 20, iv 20, rv b2] [(.int (20 : Int32)), (.int (0 : Int32)), (.ref b2), (.int (0 : Int32)), (.ref r0)])) rfl (by rw [hml]; rfl) rfl (hb hby d50_27) (by decide) (W := 0) (by show 2 * 0 + _ ≤ _; exact Nat.le_of_eq rfl) (by decide)
 have fa10 := fa3.keep K9 (ninS ne_r0_b2 nin0)
 have z11 : n0 ≤ h9.size := Nat.le_trans z4 K9.1
 have kp12 : Keep h0 h9 [] := kp5.trans K9 (allS (Or.inr sz_b2) all0)
 have fa13 : Arv Z h9 b2 k2 .byte (20 : Int32) (own_cp (List.replicate 20 (Value.int (0 : Int32))) vd (0 : Int32) (20 : Int32)) (.int (0 : Int32)) := V9
 obtain ⟨fs, hr, hrun, hended, hW, hsame⟩ := X9.leave (v := some (.ref b2)) (fun h => by rw [Bd.returns] at h; cases h)
 refine ⟨_, _, G0 _ ?_, hrun, hended, _, _, rfl, ?_, ⟨_, rfl⟩, hW, hsame.mono (by decide) (by decide)⟩
 ·skip
  refine XS.iloadN X0.here hx rfl (hb hby d50_0) rfl ?_
  refine XS.iloadN X0.here hx rfl (hb hby d50_1) rfl ?_
  refine st1 _ ?_
  refine XS.iloadN X1.here hx rfl (hb hby d50_5) rfl ?_
  refine XS.iloadN X1.here hx rfl (hb hby d50_6) rfl ?_
  refine XS.isub X1.here hx rfl (hb hby d50_7) rfl ?_
  refine XS.istoreN X1.here hx rfl (hb hby d50_8) rfl (l' := #[rv r0, iv 0, iv 20, iv 20, .unset]) rfl ?_
  refine XS.iloadN X1.here hx rfl (hb hby d50_9) rfl ?_
  refine st2 _ ?_
  refine XS.astore X2.here hx rfl (hb hby d50_12) rfl rfl (l' := #[rv r0, iv 0, iv 20, iv 20, rv b2]) rfl ?_
  refine XS.aloadN X2.here hx rfl (hb hby d50_14) rfl rfl ?_
  refine XS.iloadN X2.here hx rfl (hb hby d50_15) rfl ?_
  refine XS.aload X2.here hx rfl (hb hby d50_16) rfl rfl ?_
  refine XS.iconst X2.here hx rfl (hb hby d50_18) ?_
  refine XS.aloadN X2.here hx rfl (hb hby d50_19) rfl rfl ?_
  refine X2.arraylength hx (by rw [e2]; exact Ar7.1) (State.isArrayOf_alike hZ.alike Ar7.2.1) (g := (mkF m 20 #[rv r0, iv 0, iv 20, iv 20, rv b2] [(.ref r0), (.int (0 : Int32)), (.ref b2), (.int (0 : Int32)), (.ref r0)])) rfl rfl (hb hby d50_20) _ ?_
  rw [len_of S7 M7]
  refine XS.iloadN X2.here hx rfl (hb hby d50_21) rfl ?_
  refine XS.isub X2.here hx rfl (hb hby d50_22) rfl ?_
  refine XS.iloadN X2.here hx rfl (hb hby d50_23) rfl ?_
  show Steps p.tables e below (T2.setTop (mkF m 24 #[rv r0, iv 0, iv 20, iv 20, rv b2] [(.int (20 : Int32)), (.int (34 : Int32)), (.int (0 : Int32)), (.ref b2), (.int (0 : Int32)), (.ref r0)])) _
  refine st8 _ ?_
  refine st9 _ ?_
  refine XS.aload X9.here hx rfl (hb hby d50_30) rfl rfl ?_
  exact retOut X9 hx Bd.returns rfl (Or.inr (Or.inr (Or.inr (Or.inr ⟨rfl, rfl, rfl⟩)))) (hb hby d50_32) hr
 ·show QCB20 Z r0 kd vd h0 n0 _ T9.heap _
  rw [e9]
  exact ⟨b2, k2, rfl, N9, kp12, g_b2, sz_b2, fa13⟩
theorem d49_0 : decode jdk_65_method_132_code 0 = .ok (.iload_n 1, 1) := by decide +kernel
theorem d49_1 : decode jdk_65_method_132_code 1 = .ok (.ifCond .ne 9, 3) := by decide +kernel
theorem d49_4 : decode jdk_65_method_132_code 4 = .ok (.iload_n 2, 1) := by decide +kernel
theorem d49_5 : decode jdk_65_method_132_code 5 = .ok (.aload_n 0, 1) := by decide +kernel
theorem d49_6 : decode jdk_65_method_132_code 6 = .ok (.arraylength, 1) := by decide +kernel
theorem d49_7 : decode jdk_65_method_132_code 7 = .ok (.if_icmp .eq 10, 3) := by decide +kernel
theorem d49_10 : decode jdk_65_method_132_code 10 = .ok (.aload_n 0, 1) := by decide +kernel
theorem d49_11 : decode jdk_65_method_132_code 11 = .ok (.iload_n 1, 1) := by decide +kernel
theorem d49_12 : decode jdk_65_method_132_code 12 = .ok (.iload_n 2, 1) := by decide +kernel
theorem d49_13 : decode jdk_65_method_132_code 13 = .ok (.invokestatic 339, 3) := by decide +kernel
theorem pd_23 : parseMethodDescriptor "([BII)[B" = some ⟨[(.array .byte), .int, .int], some (.array .byte)⟩ := by decide +kernel
theorem d49_16 : decode jdk_65_method_132_code 16 = .ok (.areturn, 1) := by decide +kernel
def QCQ19 (Z : State) (r0 : Addr) (kd : ClassId) (vd : List Value) (h0 : Heap) (n0 : Nat) (v : Option Value) (h : Heap) (L : List Loc) : Prop := ∃ (b : Addr) (k : ClassId), v = some (.ref b) ∧ Fr n0 L ∧ Keep h0 h [] ∧ n0 ≤ b ∧ h0.size ≤ b ∧ Arv Z h b k .byte (19 : Int32) (own_cp (List.replicate 19 (Value.int (0 : Int32))) vd (0 : Int32) (19 : Int32)) (.int (0 : Int32))
theorem ef_rmCQ19 (m : MethodId) (x0 : Addr) (x1 : Int32) (x2 : Int32) : entryFrame m #[(.ref x0), (.int x1), (.int x2)] 3 = mkF m 0 #[.val (.ref x0), .val (.int x1), .val (.int x2)] [] := by first | (simp [entryFrame, mkF, argsToLocals, Value.category]; done) | rfl
set_option maxRecDepth 65536 in
set_option maxHeartbeats 40000000 in
theorem rmCQ19 (l : Launch) (Z : State) (a0 : Array Value) (hw : ∀ d ∈ tables_1, d.before a0 Z = true) (ws : List Jvm.Cond) (r0 : Addr) (kd : ClassId) (vd : List Value) (h0 : Heap) (n0 : Nat) (Z0 : n0 ≤ h0.size) (Vd : Arv Z h0 r0 kd .byte (34 : Int32) vd (.int (0 : Int32))) :
  MetFree l (⟨"java/util/Arrays", "copyOfRange", "([BII)[B"⟩ : MethodName) (head1 (Jvm.Cond.code (⟨"java/util/Arrays", "copyOfRange", "([BII)[B"⟩ : MethodName) jdk_65_method_132_code 3 (some (.array .byte)) :: ws) ({ frames := 2, cells := 1, slots := 19, locals := 34 } : Room)) (fun a U => a = #[(.ref r0), (.int (0 : Int32)), (.int (19 : Int32))] ∧ Z.Warmed39 U.vm ∧ U.heap = h0) (fun _ _ _ _ _ => True) (fun _ U o U' => ∃ v L, o = .returned v ∧ QCQ19 Z r0 kd vd h0 n0 v U'.heap L ∧ FrameEnd U o U' L ({ frames := 2, cells := 1, slots := 19, locals := 34 } : Room).cells ({ frames := 2, cells := 1, slots := 19, locals := 34 } : Room).slots) := by
 refine MetFree.of_bodySF (plainFor_of_name pnc_java_util_Arrays) hisR ?_
 intro p e s m args below meth c s₁ Bd hml0 hP hK
 obtain ⟨rfl, hZ, hh⟩ := hP
 have hx := Bd.exec
 have hby := Bd.bytes
 have hml : c.maxLocals = 3 := hml0
 have hown : s.vm.findClass "java/util/Arrays" = some m.cls := findClass_of_methodNamed Bd.named
 have hnm := (name_of_methodNamed Bd.named Bd.method).1
 have X0 : Stand p l e ({ frames := 2, cells := 1, slots := 19, locals := 34 } : Room) s m #[(.ref r0), (.int (0 : Int32)), (.int (19 : Int32))] below meth c s₁ [] 0 0 := Stand.of_body Bd
 have e0 : s₁.heap = h0 := by rw [← hh, Bd.state]; rfl
 have N0 := Fr.nil n0
 have kp0 : Keep h0 h0 [] := Keep.refl _ _
 have G0 : ∀ t, Steps p.tables e below (s₁.setTop (mkF m 0 #[rv r0, iv 0, iv 19] [])) t → Steps p.tables e below (s₁.setTop (entryFrame m #[(.ref r0), (.int (0 : Int32)), (.int (19 : Int32))] 3)) t := fun t k => castTop (ef_rmCQ19 m r0 (0 : Int32) (19 : Int32)) k
 have G1 : ∀ t, Steps p.tables e below (s₁.setTop (mkF m 1 #[rv r0, iv 0, iv 19] [(.int (0 : Int32))])) t → Steps p.tables e below (s₁.setTop (entryFrame m #[(.ref r0), (.int (0 : Int32)), (.int (19 : Int32))] 3)) t := by
  intro t kt
  refine G0 _ ?_
  refine XS.iloadN X0.here hx rfl (hb hby d49_0) rfl ?_
  exact kt
 obtain ⟨cl2, Ar2, q2, S2, M2, H2, G2⟩ := id Vd
 have G3 : ∀ t, Steps p.tables e below (s₁.setTop (mkF m 7 #[rv r0, iv 0, iv 19] [(.int (34 : Int32)), (.int (19 : Int32))])) t → Steps p.tables e below (s₁.setTop (entryFrame m #[(.ref r0), (.int (0 : Int32)), (.int (19 : Int32))] 3)) t := by
  intro t kt
  refine G1 _ ?_
  refine XS.ifNo X0.here hx rfl (hb hby d49_1) rfl ((if0 _ _).trans (teq (by decide)).2) ?_
  refine XS.iloadN X0.here hx rfl (hb hby d49_4) rfl ?_
  refine XS.aloadN X0.here hx rfl (hb hby d49_5) rfl rfl ?_
  refine X0.arraylength hx (by rw [e0]; exact Ar2.1) (State.isArrayOf_alike hZ.alike Ar2.2.1) (g := (mkF m 6 #[rv r0, iv 0, iv 19] [(.ref r0), (.int (19 : Int32))])) rfl rfl (hb hby d49_6) _ ?_
  rw [len_of S2 M2]
  exact kt
 obtain ⟨_, _, ⟨T4, L4, k4, n4⟩, -, X4, ⟨Lc4, hQ4, l4, y4, z4⟩, st4⟩ := Jvm.LawKit.callS X0 hx (y := (⟨"java/util/Arrays", "copyOfRangeByte", "([BII)[B"⟩ : MethodName)) hown (mvT hZ (hq hw 261 rfl)) (mvT hZ (hq hw 262 rfl)) (mvT hZ (hq hw 190 rfl)) (mvT hZ (hq hw 263 rfl)) (by decide) (backOf (W := 0) (rmCB19 l Z a0 hw [] r0 kd vd h0 n0 Z0 Vd ) hZ (hq hw 263 rfl) (hq hw 190 rfl) (by decide) (by decide)) (g := (mkF m 13 #[rv r0, iv 0, iv 19] [(.int (19 : Int32)), (.int (0 : Int32)), (.ref r0)])) rfl (by rw [hml]; rfl) (argsL := [(.ref r0), (.int (0 : Int32)), (.int (19 : Int32))]) (rest := []) (lenOf pd_23 rfl) rfl (by show 2 * 0 + _ ≤ _; exact Nat.le_of_eq rfl) (hb hby d49_13) (fun _ _ => ⟨rfl, e0, (by decide : 0 + 1 ≤ _), (by decide : 0 + 19 ≤ _)⟩)
 dsimp only [Pt.U, Pt.locs, Pt.cells, Pt.slots] at X4 l4 y4 z4 st4 hQ4
 subst l4 y4 z4
 obtain ⟨bc4, kb4, rfl, N4q, K4, g_bc4, sz4, V4⟩ := hQ4
 have N4 := Fr.app N0 N4q
 have szk4 : h0.size ≤ bc4 := Nat.le_trans kp0.1 sz4
 have ne_r0_bc4 : r0 ≠ bc4 := Nat.ne_of_lt (Nat.lt_of_lt_of_le Vd.lt sz4)
 have fa5 := Vd.keep K4 nin0
 have z6 : n0 ≤ T4.heap.size := Nat.le_trans Z0 K4.1
 have kp7 : Keep h0 T4.heap [] := kp0.trans K4 all0
 obtain ⟨fs, hr, hrun, hended, hW, hsame⟩ := X4.leave (v := some (.ref bc4)) (fun h => by rw [Bd.returns] at h; cases h)
 refine ⟨_, _, G3 _ ?_, hrun, hended, _, _, rfl, ?_, ⟨_, rfl⟩, hW, hsame.mono (by decide) (by decide)⟩
 ·skip
  refine XS.icmpNo X0.here hx rfl (hb hby d49_7) rfl (feq (by decide)).1 ?_
  refine XS.aloadN X0.here hx rfl (hb hby d49_10) rfl rfl ?_
  refine XS.iloadN X0.here hx rfl (hb hby d49_11) rfl ?_
  refine XS.iloadN X0.here hx rfl (hb hby d49_12) rfl ?_
  refine st4 _ ?_
  exact retOut X4 hx Bd.returns rfl (Or.inr (Or.inr (Or.inr (Or.inr ⟨rfl, rfl, rfl⟩)))) (hb hby d49_16) hr
 ·show QCQ19 Z r0 kd vd h0 n0 _ T4.heap _
  exact ⟨bc4, kb4, rfl, N4, kp7, g_bc4, szk4, V4⟩
def QCQ20 (Z : State) (r0 : Addr) (kd : ClassId) (vd : List Value) (h0 : Heap) (n0 : Nat) (v : Option Value) (h : Heap) (L : List Loc) : Prop := ∃ (b : Addr) (k : ClassId), v = some (.ref b) ∧ Fr n0 L ∧ Keep h0 h [] ∧ n0 ≤ b ∧ h0.size ≤ b ∧ Arv Z h b k .byte (20 : Int32) (own_cp (List.replicate 20 (Value.int (0 : Int32))) vd (0 : Int32) (20 : Int32)) (.int (0 : Int32))
theorem ef_rmCQ20 (m : MethodId) (x0 : Addr) (x1 : Int32) (x2 : Int32) : entryFrame m #[(.ref x0), (.int x1), (.int x2)] 3 = mkF m 0 #[.val (.ref x0), .val (.int x1), .val (.int x2)] [] := by first | (simp [entryFrame, mkF, argsToLocals, Value.category]; done) | rfl
set_option maxRecDepth 65536 in
set_option maxHeartbeats 40000000 in
theorem rmCQ20 (l : Launch) (Z : State) (a0 : Array Value) (hw : ∀ d ∈ tables_1, d.before a0 Z = true) (ws : List Jvm.Cond) (r0 : Addr) (kd : ClassId) (vd : List Value) (h0 : Heap) (n0 : Nat) (Z0 : n0 ≤ h0.size) (Vd : Arv Z h0 r0 kd .byte (34 : Int32) vd (.int (0 : Int32))) :
  MetFree l (⟨"java/util/Arrays", "copyOfRange", "([BII)[B"⟩ : MethodName) (head1 (Jvm.Cond.code (⟨"java/util/Arrays", "copyOfRange", "([BII)[B"⟩ : MethodName) jdk_65_method_132_code 3 (some (.array .byte)) :: ws) ({ frames := 2, cells := 1, slots := 20, locals := 34 } : Room)) (fun a U => a = #[(.ref r0), (.int (0 : Int32)), (.int (20 : Int32))] ∧ Z.Warmed39 U.vm ∧ U.heap = h0) (fun _ _ _ _ _ => True) (fun _ U o U' => ∃ v L, o = .returned v ∧ QCQ20 Z r0 kd vd h0 n0 v U'.heap L ∧ FrameEnd U o U' L ({ frames := 2, cells := 1, slots := 20, locals := 34 } : Room).cells ({ frames := 2, cells := 1, slots := 20, locals := 34 } : Room).slots) := by
 refine MetFree.of_bodySF (plainFor_of_name pnc_java_util_Arrays) hisR ?_
 intro p e s m args below meth c s₁ Bd hml0 hP hK
 obtain ⟨rfl, hZ, hh⟩ := hP
 have hx := Bd.exec
 have hby := Bd.bytes
 have hml : c.maxLocals = 3 := hml0
 have hown : s.vm.findClass "java/util/Arrays" = some m.cls := findClass_of_methodNamed Bd.named
 have hnm := (name_of_methodNamed Bd.named Bd.method).1
 have X0 : Stand p l e ({ frames := 2, cells := 1, slots := 20, locals := 34 } : Room) s m #[(.ref r0), (.int (0 : Int32)), (.int (20 : Int32))] below meth c s₁ [] 0 0 := Stand.of_body Bd
 have e0 : s₁.heap = h0 := by rw [← hh, Bd.state]; rfl
 have N0 := Fr.nil n0
 have kp0 : Keep h0 h0 [] := Keep.refl _ _
 have G0 : ∀ t, Steps p.tables e below (s₁.setTop (mkF m 0 #[rv r0, iv 0, iv 20] [])) t → Steps p.tables e below (s₁.setTop (entryFrame m #[(.ref r0), (.int (0 : Int32)), (.int (20 : Int32))] 3)) t := fun t k => castTop (ef_rmCQ20 m r0 (0 : Int32) (20 : Int32)) k
 have G1 : ∀ t, Steps p.tables e below (s₁.setTop (mkF m 1 #[rv r0, iv 0, iv 20] [(.int (0 : Int32))])) t → Steps p.tables e below (s₁.setTop (entryFrame m #[(.ref r0), (.int (0 : Int32)), (.int (20 : Int32))] 3)) t := by
  intro t kt
  refine G0 _ ?_
  refine XS.iloadN X0.here hx rfl (hb hby d49_0) rfl ?_
  exact kt
 obtain ⟨cl2, Ar2, q2, S2, M2, H2, G2⟩ := id Vd
 have G3 : ∀ t, Steps p.tables e below (s₁.setTop (mkF m 7 #[rv r0, iv 0, iv 20] [(.int (34 : Int32)), (.int (20 : Int32))])) t → Steps p.tables e below (s₁.setTop (entryFrame m #[(.ref r0), (.int (0 : Int32)), (.int (20 : Int32))] 3)) t := by
  intro t kt
  refine G1 _ ?_
  refine XS.ifNo X0.here hx rfl (hb hby d49_1) rfl ((if0 _ _).trans (teq (by decide)).2) ?_
  refine XS.iloadN X0.here hx rfl (hb hby d49_4) rfl ?_
  refine XS.aloadN X0.here hx rfl (hb hby d49_5) rfl rfl ?_
  refine X0.arraylength hx (by rw [e0]; exact Ar2.1) (State.isArrayOf_alike hZ.alike Ar2.2.1) (g := (mkF m 6 #[rv r0, iv 0, iv 20] [(.ref r0), (.int (20 : Int32))])) rfl rfl (hb hby d49_6) _ ?_
  rw [len_of S2 M2]
  exact kt
 obtain ⟨_, _, ⟨T4, L4, k4, n4⟩, -, X4, ⟨Lc4, hQ4, l4, y4, z4⟩, st4⟩ := Jvm.LawKit.callS X0 hx (y := (⟨"java/util/Arrays", "copyOfRangeByte", "([BII)[B"⟩ : MethodName)) hown (mvT hZ (hq hw 261 rfl)) (mvT hZ (hq hw 262 rfl)) (mvT hZ (hq hw 190 rfl)) (mvT hZ (hq hw 263 rfl)) (by decide) (backOf (W := 0) (rmCB20 l Z a0 hw [] r0 kd vd h0 n0 Z0 Vd ) hZ (hq hw 263 rfl) (hq hw 190 rfl) (by decide) (by decide)) (g := (mkF m 13 #[rv r0, iv 0, iv 20] [(.int (20 : Int32)), (.int (0 : Int32)), (.ref r0)])) rfl (by rw [hml]; rfl) (argsL := [(.ref r0), (.int (0 : Int32)), (.int (20 : Int32))]) (rest := []) (lenOf pd_23 rfl) rfl (by show 2 * 0 + _ ≤ _; exact Nat.le_of_eq rfl) (hb hby d49_13) (fun _ _ => ⟨rfl, e0, (by decide : 0 + 1 ≤ _), (by decide : 0 + 20 ≤ _)⟩)
 dsimp only [Pt.U, Pt.locs, Pt.cells, Pt.slots] at X4 l4 y4 z4 st4 hQ4
 subst l4 y4 z4
 obtain ⟨bc4, kb4, rfl, N4q, K4, g_bc4, sz4, V4⟩ := hQ4
 have N4 := Fr.app N0 N4q
 have szk4 : h0.size ≤ bc4 := Nat.le_trans kp0.1 sz4
 have ne_r0_bc4 : r0 ≠ bc4 := Nat.ne_of_lt (Nat.lt_of_lt_of_le Vd.lt sz4)
 have fa5 := Vd.keep K4 nin0
 have z6 : n0 ≤ T4.heap.size := Nat.le_trans Z0 K4.1
 have kp7 : Keep h0 T4.heap [] := kp0.trans K4 all0
 obtain ⟨fs, hr, hrun, hended, hW, hsame⟩ := X4.leave (v := some (.ref bc4)) (fun h => by rw [Bd.returns] at h; cases h)
 refine ⟨_, _, G3 _ ?_, hrun, hended, _, _, rfl, ?_, ⟨_, rfl⟩, hW, hsame.mono (by decide) (by decide)⟩
 ·skip
  refine XS.icmpNo X0.here hx rfl (hb hby d49_7) rfl (feq (by decide)).1 ?_
  refine XS.aloadN X0.here hx rfl (hb hby d49_10) rfl rfl ?_
  refine XS.iloadN X0.here hx rfl (hb hby d49_11) rfl ?_
  refine XS.iloadN X0.here hx rfl (hb hby d49_12) rfl ?_
  refine st4 _ ?_
  exact retOut X4 hx Bd.returns rfl (Or.inr (Or.inr (Or.inr (Or.inr ⟨rfl, rfl, rfl⟩)))) (hb hby d49_16) hr
 ·show QCQ20 Z r0 kd vd h0 n0 _ T4.heap _
  exact ⟨bc4, kb4, rfl, N4, kp7, g_bc4, szk4, V4⟩
theorem d45_0 : decode jdk_42_method_150_code 0 = .ok (.aload_n 0, 1) := by decide +kernel
theorem d45_1 : decode jdk_42_method_150_code 1 = .ok (.invokespecial 1, 3) := by decide +kernel
theorem d45_4 : decode jdk_42_method_150_code 4 = .ok (.aload_n 1, 1) := by decide +kernel
theorem d45_5 : decode jdk_42_method_150_code 5 = .ok (.invokevirtual 552, 3) := by decide +kernel
theorem pd_24 : parseMethodDescriptor "()[B" = some ⟨[], some (.array .byte)⟩ := by decide +kernel
theorem d45_8 : decode jdk_42_method_150_code 8 = .ok (.astore_n 3, 1) := by decide +kernel
theorem d45_9 : decode jdk_42_method_150_code 9 = .ok (.aload_n 1, 1) := by decide +kernel
theorem d45_10 : decode jdk_42_method_150_code 10 = .ok (.invokevirtual 549, 3) := by decide +kernel
theorem d45_13 : decode jdk_42_method_150_code 13 = .ok (.istore 4, 2) := by decide +kernel
theorem d45_15 : decode jdk_42_method_150_code 15 = .ok (.aload_n 1, 1) := by decide +kernel
theorem d45_16 : decode jdk_42_method_150_code 16 = .ok (.invokevirtual 1047, 3) := by decide +kernel
theorem d45_19 : decode jdk_42_method_150_code 19 = .ok (.ifCond .eq 22, 3) := by decide +kernel
theorem d45_22 : decode jdk_42_method_150_code 22 = .ok (.aload_n 0, 1) := by decide +kernel
theorem d45_23 : decode jdk_42_method_150_code 23 = .ok (.iconst 0, 1) := by decide +kernel
theorem d45_24 : decode jdk_42_method_150_code 24 = .ok (.putfield 15, 3) := by decide +kernel
theorem d45_27 : decode jdk_42_method_150_code 27 = .ok (.aload_n 0, 1) := by decide +kernel
theorem d45_28 : decode jdk_42_method_150_code 28 = .ok (.aload_n 3, 1) := by decide +kernel
theorem d45_29 : decode jdk_42_method_150_code 29 = .ok (.iconst 0, 1) := by decide +kernel
theorem d45_30 : decode jdk_42_method_150_code 30 = .ok (.iload 4, 2) := by decide +kernel
theorem d45_32 : decode jdk_42_method_150_code 32 = .ok (.invokestatic 54, 3) := by decide +kernel
theorem d45_35 : decode jdk_42_method_150_code 35 = .ok (.putfield 9, 3) := by decide +kernel
theorem d45_38 : decode jdk_42_method_150_code 38 = .ok (.goto 59, 3) := by decide +kernel
theorem d45_97 : decode jdk_42_method_150_code 97 = .ok (.return_, 1) := by decide +kernel
def QSN45_19 (Z : State) (r0 : Addr) (r1 : Addr) (tb : Addr) (kd : ClassId) (vd : List Value) (cst : Int32) (fv : Value) (h0 : Heap) (n0 : Nat) (v : Option Value) (h : Heap) (L : List Loc) : Prop := v = none ∧ Fr n0 L ∧ Keep h0 h [r0] ∧ Fld Z h r0 "java/lang/String" "coder" "B" (.int (0 : Int32)) ∧ ∃ (t : Addr) (k : ClassId), Fld Z h r0 "java/lang/String" "value" "[B" (.ref t) ∧ Arv Z h t k .byte (19 : Int32) (own_cp (List.replicate 19 (Value.int (0 : Int32))) vd (0 : Int32) (19 : Int32)) (.int (0 : Int32)) ∧ h0.size ≤ t
theorem ef_rmSN45_19 (m : MethodId) (x0 : Addr) (x1 : Addr) : entryFrame m #[(.ref x0), (.ref x1), .null] 5 = mkF m 0 #[.val (.ref x0), .val (.ref x1), .val .null, .unset, .unset] [] := by first | (simp [entryFrame, mkF, argsToLocals, Value.category]; done) | rfl
set_option maxRecDepth 65536 in
set_option maxHeartbeats 40000000 in
theorem rmSN45_19 (l : Launch) (Z : State) (a0 : Array Value) (hw : ∀ d ∈ tables_1, d.before a0 Z = true) (ws : List Jvm.Cond) (r0 : Addr) (r1 : Addr) (tb : Addr) (kd : ClassId) (vd : List Value) (cst : Int32) (fv : Value) (h0 : Heap) (n0 : Nat) (Z0 : n0 ≤ h0.size) (E0 : Exa Z h0 r0 "java/lang/String") (Fv : Fld Z h0 r0 "java/lang/String" "value" "[B" .null) (Fc : Fld Z h0 r0 "java/lang/String" "coder" "B" (.int (0 : Int32))) (Ey : Exa Z h0 r1 "java/lang/StringBuilder") (Fny : Fld Z h0 r1 "java/lang/AbstractStringBuilder" "count" "I" (.int (19 : Int32))) (Fcy : Fld Z h0 r1 "java/lang/AbstractStringBuilder" "coder" "B" (.int (0 : Int32))) (Fvy : Fld Z h0 r1 "java/lang/AbstractStringBuilder" "value" "[B" (.ref tb)) (Vd : Arv Z h0 tb kd .byte (34 : Int32) vd (.int (0 : Int32))) (O0 : Old Z n0 h0) (g_r0 : n0 ≤ r0) (dq_01 : r0 ≠ r1) (dq_0b : r0 ≠ tb) (SS : Sts Z cst fv) :
  MetFree l (⟨"java/lang/String", "<init>", "(Ljava/lang/AbstractStringBuilder;Ljava/lang/Void;)V"⟩ : MethodName) (head1 (Jvm.Cond.code (⟨"java/lang/String", "<init>", "(Ljava/lang/AbstractStringBuilder;Ljava/lang/Void;)V"⟩ : MethodName) jdk_42_method_150_code 5 none :: ws) ({ frames := 3, cells := 1, slots := 19, locals := 49 } : Room)) (fun a U => a = #[(.ref r0), (.ref r1), .null] ∧ Z.Warmed39 U.vm ∧ U.heap = h0) (fun _ _ _ _ _ => True) (fun _ U o U' => ∃ v L, o = .returned v ∧ QSN45_19 Z r0 r1 tb kd vd cst fv h0 n0 v U'.heap L ∧ FrameEnd U o U' L ({ frames := 3, cells := 1, slots := 19, locals := 49 } : Room).cells ({ frames := 3, cells := 1, slots := 19, locals := 49 } : Room).slots) := by
 refine MetFree.of_bodySF (plainFor_of_name pnc_java_lang_String) hisR ?_
 intro p e s m args below meth c s₁ Bd hml0 hP hK
 obtain ⟨rfl, hZ, hh⟩ := hP
 have hx := Bd.exec
 have hby := Bd.bytes
 have hml : c.maxLocals = 5 := hml0
 have hown : s.vm.findClass "java/lang/String" = some m.cls := findClass_of_methodNamed Bd.named
 have hnm := (name_of_methodNamed Bd.named Bd.method).1
 have X0 : Stand p l e ({ frames := 3, cells := 1, slots := 19, locals := 49 } : Room) s m #[(.ref r0), (.ref r1), .null] below meth c s₁ [] 0 0 := Stand.of_body Bd
 have e0 : s₁.heap = h0 := by rw [← hh, Bd.state]; rfl
 have N0 := Fr.nil n0
 have kp0 : Keep h0 h0 [r0] := Keep.refl _ _
 have G0 : ∀ t, Steps p.tables e below (s₁.setTop (mkF m 0 #[rv r0, rv r1, .val .null, .unset, .unset] [])) t → Steps p.tables e below (s₁.setTop (entryFrame m #[(.ref r0), (.ref r1), .null] 5)) t := fun t k => castTop (ef_rmSN45_19 m r0 r1) k
 obtain ⟨T1, X1, e1, st1⟩ := initO X0 hx hZ hown (hq hw 63 rfl) (hq hw 25 rfl) (hq hw 26 rfl) e0 (g := (mkF m 1 #[rv r0, rv r1, .val .null, .unset, .unset] [(.ref r0)])) rfl (by rw [hml]; rfl) rfl (hb hby d45_1) (by decide) (W := 0) (by show 2 * 0 + _ ≤ _; exact Nat.le_of_eq rfl) (by decide)
 obtain ⟨cq2, kq2, q2a, q2b, q2c⟩ := isOf hZ e1 Ey
 obtain ⟨_, _, ⟨T2, L2, k2, n2⟩, -, X2, ⟨Lc2, hQ2, l2, y2, z2⟩, st2⟩ := X1.virtualBack hx (y := (⟨"java/lang/AbstractStringBuilder", "getValue", "()[B"⟩ : MethodName)) (z := (⟨"java/lang/AbstractStringBuilder", "getValue", "()[B"⟩ : MethodName)) hown (mvT hZ (hq hw 244 rfl)) (mvT hZ (hq hw 245 rfl)) (notFace_of_selects (args := #[]) (mvT hZ (hq hw 247 rfl))) (mvT hZ (hq hw 247 rfl)) (mvT hZ (hq hw 246 rfl)) (by decide) (backOf (W := 0) (rm46 l Z a0 hw [] r1 tb h0 n0 Z0 Fvy ) hZ (hq hw 248 rfl) (hq hw 145 rfl) (by decide) (by decide)) q2a q2c (g := (mkF m 5 #[rv r0, rv r1, .val .null, .unset, .unset] [(.ref r1)])) rfl (by rw [hml]; rfl) (Steps.refl _) (argsL := []) (rest := []) (lenOf pd_24 rfl) rfl (by show 2 * 0 + _ ≤ _; exact Nat.le_of_eq rfl) (hb hby d45_5) (fun _ _ => ⟨rfl, e1, (by decide : 0 + 0 ≤ _), (by decide : 0 + 0 ≤ _)⟩)
 dsimp only [Pt.U, Pt.locs, Pt.cells, Pt.slots] at X2 l2 y2 z2 st2 hQ2
 subst l2 y2 z2
 obtain ⟨rfl, N2q, eh2⟩ := hQ2
 have N2 := Fr.app N0 N2q
 obtain ⟨cq3, kq3, q3a, q3b, q3c⟩ := isOf hZ eh2 Ey
 obtain ⟨_, _, ⟨T3, L3, k3, n3⟩, -, X3, ⟨Lc3, hQ3, l3, y3, z3⟩, st3⟩ := X2.virtualBack hx (y := (⟨"java/lang/AbstractStringBuilder", "length", "()I"⟩ : MethodName)) (z := (⟨"java/lang/StringBuilder", "length", "()I"⟩ : MethodName)) hown (mvT hZ (hq hw 249 rfl)) (mvT hZ (hq hw 250 rfl)) (own_nf (a0 := #[]) (mvT hZ (hq hw 229 rfl)) (mvT hZ (hq hw 228 rfl)) rfl) (mvT hZ (hq hw 252 rfl)) (mvT hZ (hq hw 253 rfl)) (by decide) (backOf (W := 0) (rm47 l Z a0 hw [] r1 (19 : Int32) h0 n0 Z0 Ey Fny ) hZ (hq hw 254 rfl) (hq hw 136 rfl) (by decide) (by decide)) q3a q3c (g := (mkF m 10 #[rv r0, rv r1, .val .null, rv tb, .unset] [(.ref r1)])) rfl (by rw [hml]; rfl) (Steps.refl _) (argsL := []) (rest := []) (lenOf pd_19 rfl) rfl (by show 2 * 0 + _ ≤ _; exact Nat.le_of_eq rfl) (hb hby d45_10) (fun _ _ => ⟨rfl, eh2, (by decide : 0 + 0 ≤ _), (by decide : 0 + 0 ≤ _)⟩)
 dsimp only [Pt.U, Pt.locs, Pt.cells, Pt.slots] at X3 l3 y3 z3 st3 hQ3
 subst l3 y3 z3
 obtain ⟨rfl, N3q, eh3⟩ := hQ3
 have N3 := Fr.app N2 N3q
 obtain ⟨cq4, kq4, q4a, q4b, q4c⟩ := isOf hZ eh3 Ey
 obtain ⟨_, _, ⟨T4, L4, k4, n4⟩, -, X4, ⟨Lc4, hQ4, l4, y4, z4⟩, st4⟩ := X3.virtualBack hx (y := (⟨"java/lang/AbstractStringBuilder", "isLatin1", "()Z"⟩ : MethodName)) (z := (⟨"java/lang/AbstractStringBuilder", "isLatin1", "()Z"⟩ : MethodName)) hown (mvT hZ (hq hw 257 rfl)) (mvT hZ (hq hw 227 rfl)) (notFace_of_selects (args := #[]) (mvT hZ (hq hw 229 rfl))) (mvT hZ (hq hw 229 rfl)) (mvT hZ (hq hw 228 rfl)) (by decide) (backOf (W := 0) (rm42 l Z a0 hw [] r1  cst fv h0 n0 Z0 Fcy O0  SS) hZ (hq hw 230 rfl) (hq hw 145 rfl) (by decide) (by decide)) q4a q4c (g := (mkF m 16 #[rv r0, rv r1, .val .null, rv tb, iv 19] [(.ref r1)])) rfl (by rw [hml]; rfl) (Steps.refl _) (argsL := []) (rest := []) (lenOf pd_3 rfl) rfl (by show 2 * 0 + _ ≤ _; exact Nat.le_of_eq rfl) (hb hby d45_16) (fun _ _ => ⟨rfl, eh3, (by decide : 0 + 0 ≤ _), (by decide : 0 + 0 ≤ _)⟩)
 dsimp only [Pt.U, Pt.locs, Pt.cells, Pt.slots] at X4 l4 y4 z4 st4 hQ4
 subst l4 y4 z4
 obtain ⟨rfl, N4q, eh4⟩ := hQ4
 have N4 := Fr.app N3 N4q
 have G5 : ∀ t, Steps p.tables e below (T4.setTop (mkF m 19 #[rv r0, rv r1, .val .null, rv tb, iv 19] [(.int (1 : Int32))])) t → Steps p.tables e below (s₁.setTop (entryFrame m #[(.ref r0), (.ref r1), .null] 5)) t := by
  intro t kt
  refine G0 _ ?_
  refine XS.aloadN X0.here hx rfl (hb hby d45_0) rfl rfl ?_
  refine st1 _ ?_
  refine XS.aloadN X1.here hx rfl (hb hby d45_4) rfl rfl ?_
  refine st2.trans ?_
  refine XS.astoreN X2.here hx rfl (hb hby d45_8) rfl rfl (l' := #[rv r0, rv r1, .val .null, rv tb, .unset]) rfl ?_
  refine XS.aloadN X2.here hx rfl (hb hby d45_9) rfl rfl ?_
  refine st3.trans ?_
  refine XS.istore X3.here hx rfl (hb hby d45_13) rfl (l' := #[rv r0, rv r1, .val .null, rv tb, iv 19]) rfl ?_
  refine XS.aloadN X3.here hx rfl (hb hby d45_15) rfl rfl ?_
  refine st4.trans ?_
  exact kt
 obtain ⟨T6, h6, X6, e6, W6, st6⟩ := putFN X4 hx hZ hown (hq hw 65 rfl) Via.refl eh4 Fc E0 (Or.inr ⟨(hq hw 10 rfl), rfl, hnm⟩) (hq hw 7 rfl) (ty := .byte) (v' := (.int (0 : Int32))) (by decide) rfl (fits_nar_byte (0 : Int32)) (g := (mkF m 24 #[rv r0, rv r1, .val .null, rv tb, iv 19] [(.int (0 : Int32)), (.ref r0)])) rfl rfl (hb hby d45_24)
 have fa7 := E0.wr W6
 have fa8 := Fv.other W6 (Or.inr (slot_ne (Or.inr (hq hw 9 rfl)) (Or.inr (hq hw 10 rfl)) (by decide) (t := (.array .byte)) (t' := .byte) (by decide) (by decide)))
 have fa9 : Fld Z h6 r0 "java/lang/String" "coder" "B" (.int (0 : Int32)) := Fc.same W6
 have fa10 := Ey.wr W6
 have fa11 := Fny.other W6 (Or.inl (Ne.symm dq_01))
 have fa12 := Fcy.other W6 (Or.inl (Ne.symm dq_01))
 have fa13 := Fvy.other W6 (Or.inl (Ne.symm dq_01))
 have fa14 := Vd.other W6 (Ne.symm dq_0b)
 have fa15 := O0.wr W6 g_r0
 have z16 : n0 ≤ h6.size := Nat.le_trans Z0 (Nat.le_of_eq W6.size.symm)
 have kp17 : Keep h0 h6 [r0] := kp0.wr W6 (Or.inl (List.mem_of_getElem? (i := 0) rfl))
 have N6 := Fr.snoc X6 N4 g_r0
 obtain ⟨_, _, ⟨T18, L18, k18, n18⟩, -, X18, ⟨Lc18, hQ18, l18, y18, z18⟩, st18⟩ := Jvm.LawKit.callS X6 hx (y := (⟨"java/util/Arrays", "copyOfRange", "([BII)[B"⟩ : MethodName)) hown (mvT hZ (hq hw 258 rfl)) (mvT hZ (hq hw 259 rfl)) (mvT hZ (hq hw 190 rfl)) (mvT hZ (hq hw 260 rfl)) (by decide) (backOf (W := 1) (rmCQ19 l Z a0 hw [] tb kd vd h6 n0 z16 fa14 ) hZ (hq hw 260 rfl) (hq hw 190 rfl) (by decide) (by decide)) (g := (mkF m 32 #[rv r0, rv r1, .val .null, rv tb, iv 19] [(.int (19 : Int32)), (.int (0 : Int32)), (.ref tb), (.ref r0)])) rfl (by rw [hml]; rfl) (argsL := [(.ref tb), (.int (0 : Int32)), (.int (19 : Int32))]) (rest := [(.ref r0)]) (lenOf pd_23 rfl) rfl (by show 2 * 0 + _ ≤ _; exact Nat.le_of_eq rfl) (hb hby d45_32) (fun _ _ => ⟨rfl, e6, (by decide : 0 + 1 ≤ _), (by decide : 0 + 19 ≤ _)⟩)
 dsimp only [Pt.U, Pt.locs, Pt.cells, Pt.slots] at X18 l18 y18 z18 st18 hQ18
 subst l18 y18 z18
 obtain ⟨bc18, kb18, rfl, N18q, K18, g_bc18, sz18, V18⟩ := hQ18
 have N18 := Fr.app N6 N18q
 have szk18 : h0.size ≤ bc18 := Nat.le_trans kp17.1 sz18
 have ne_r0_bc18 : r0 ≠ bc18 := Nat.ne_of_lt (Nat.lt_of_lt_of_le fa7.lt sz18)
 have ne_r1_bc18 : r1 ≠ bc18 := Nat.ne_of_lt (Nat.lt_of_lt_of_le fa10.lt sz18)
 have ne_tb_bc18 : tb ≠ bc18 := Nat.ne_of_lt (Nat.lt_of_lt_of_le fa14.lt sz18)
 have fa19 := fa7.keep K18
 have fa20 := fa8.keep K18 nin0
 have fa21 := fa9.keep K18 nin0
 have fa22 := fa10.keep K18
 have fa23 := fa11.keep K18 nin0
 have fa24 := fa12.keep K18 nin0
 have fa25 := fa13.keep K18 nin0
 have fa26 := fa14.keep K18 nin0
 have fa27 := fa15.keep K18 all0
 have z28 : n0 ≤ T18.heap.size := Nat.le_trans z16 K18.1
 have kp29 : Keep h0 T18.heap [r0] := kp17.trans K18 all0
 obtain ⟨T30, h30, X30, e30, W30, st30⟩ := putF X18 hx hZ hown (host := "") (Or.inl (hq hw 64 rfl)) Via.refl rfl fa20 fa19 (Or.inr ⟨(hq hw 9 rfl), rfl, hnm⟩) (hq hw 7 rfl) (ty := (.array .byte)) (by decide) rfl rfl (g := (mkF m 35 #[rv r0, rv r1, .val .null, rv tb, iv 19] [(.ref bc18), (.ref r0)])) rfl rfl (hb hby d45_35)
 have fa31 := fa19.wr W30
 have fa32 : Fld Z h30 r0 "java/lang/String" "value" "[B" (.ref bc18) := fa20.same W30
 have fa33 := fa21.other W30 (Or.inr (slot_ne (Or.inr (hq hw 10 rfl)) (Or.inr (hq hw 9 rfl)) (by decide) (t := .byte) (t' := (.array .byte)) (by decide) (by decide)))
 have fa34 := fa22.wr W30
 have fa35 := fa23.other W30 (Or.inl (Ne.symm dq_01))
 have fa36 := fa24.other W30 (Or.inl (Ne.symm dq_01))
 have fa37 := fa25.other W30 (Or.inl (Ne.symm dq_01))
 have fa38 := fa26.other W30 (Ne.symm dq_0b)
 have fa39 := fa27.wr W30 g_r0
 have fa40 := V18.other W30 (Ne.symm ne_r0_bc18)
 have z41 : n0 ≤ h30.size := Nat.le_trans z28 (Nat.le_of_eq W30.size.symm)
 have kp42 : Keep h0 h30 [r0] := kp29.wr W30 (Or.inl (List.mem_of_getElem? (i := 0) rfl))
 have N30 := Fr.snoc X30 N18 g_r0
 obtain ⟨fs, hr, hrun, hended, hW, hsame⟩ := X30.leave (v := none) (fun _ => rfl)
 refine ⟨_, _, G5 _ ?_, hrun, hended, _, _, rfl, ?_, ⟨_, rfl⟩, hW, hsame.mono (by decide) (by decide)⟩
 ·skip
  refine XS.ifNo X4.here hx rfl (hb hby d45_19) rfl ((if0 _ _).trans (feq (by decide)).1) ?_
  refine XS.aloadN X4.here hx rfl (hb hby d45_22) rfl rfl ?_
  refine XS.iconst X4.here hx rfl (hb hby d45_23) ?_
  refine st6 _ ?_
  refine XS.aloadN X6.here hx rfl (hb hby d45_27) rfl rfl ?_
  refine XS.aloadN X6.here hx rfl (hb hby d45_28) rfl rfl ?_
  refine XS.iconst X6.here hx rfl (hb hby d45_29) ?_
  refine XS.iload X6.here hx rfl (hb hby d45_30) rfl ?_
  refine st18 _ ?_
  refine st30 _ ?_
  show Steps p.tables e below (T30.setTop (mkF m 38 #[rv r0, rv r1, .val .null, rv tb, iv 19] [])) _
  refine XS.goto X30.here hx rfl (pc0 := 38) (pc' := 97) rfl (hb hby d45_38) (by decide) (by decide) ?_
  exact X30.returnOut hx Bd.returns (hb hby d45_97) hr
 ·show QSN45_19 Z r0 r1 tb kd vd cst fv h0 n0 _ T30.heap _
  rw [e30]
  exact ⟨rfl, N30, kp42, fa33, bc18, kb18, fa32, fa40, szk18⟩
def QSN45_20 (Z : State) (r0 : Addr) (r1 : Addr) (tb : Addr) (kd : ClassId) (vd : List Value) (cst : Int32) (fv : Value) (h0 : Heap) (n0 : Nat) (v : Option Value) (h : Heap) (L : List Loc) : Prop := v = none ∧ Fr n0 L ∧ Keep h0 h [r0] ∧ Fld Z h r0 "java/lang/String" "coder" "B" (.int (0 : Int32)) ∧ ∃ (t : Addr) (k : ClassId), Fld Z h r0 "java/lang/String" "value" "[B" (.ref t) ∧ Arv Z h t k .byte (20 : Int32) (own_cp (List.replicate 20 (Value.int (0 : Int32))) vd (0 : Int32) (20 : Int32)) (.int (0 : Int32)) ∧ h0.size ≤ t
theorem ef_rmSN45_20 (m : MethodId) (x0 : Addr) (x1 : Addr) : entryFrame m #[(.ref x0), (.ref x1), .null] 5 = mkF m 0 #[.val (.ref x0), .val (.ref x1), .val .null, .unset, .unset] [] := by first | (simp [entryFrame, mkF, argsToLocals, Value.category]; done) | rfl
set_option maxRecDepth 65536 in
set_option maxHeartbeats 40000000 in
theorem rmSN45_20 (l : Launch) (Z : State) (a0 : Array Value) (hw : ∀ d ∈ tables_1, d.before a0 Z = true) (ws : List Jvm.Cond) (r0 : Addr) (r1 : Addr) (tb : Addr) (kd : ClassId) (vd : List Value) (cst : Int32) (fv : Value) (h0 : Heap) (n0 : Nat) (Z0 : n0 ≤ h0.size) (E0 : Exa Z h0 r0 "java/lang/String") (Fv : Fld Z h0 r0 "java/lang/String" "value" "[B" .null) (Fc : Fld Z h0 r0 "java/lang/String" "coder" "B" (.int (0 : Int32))) (Ey : Exa Z h0 r1 "java/lang/StringBuilder") (Fny : Fld Z h0 r1 "java/lang/AbstractStringBuilder" "count" "I" (.int (20 : Int32))) (Fcy : Fld Z h0 r1 "java/lang/AbstractStringBuilder" "coder" "B" (.int (0 : Int32))) (Fvy : Fld Z h0 r1 "java/lang/AbstractStringBuilder" "value" "[B" (.ref tb)) (Vd : Arv Z h0 tb kd .byte (34 : Int32) vd (.int (0 : Int32))) (O0 : Old Z n0 h0) (g_r0 : n0 ≤ r0) (dq_01 : r0 ≠ r1) (dq_0b : r0 ≠ tb) (SS : Sts Z cst fv) :
  MetFree l (⟨"java/lang/String", "<init>", "(Ljava/lang/AbstractStringBuilder;Ljava/lang/Void;)V"⟩ : MethodName) (head1 (Jvm.Cond.code (⟨"java/lang/String", "<init>", "(Ljava/lang/AbstractStringBuilder;Ljava/lang/Void;)V"⟩ : MethodName) jdk_42_method_150_code 5 none :: ws) ({ frames := 3, cells := 1, slots := 20, locals := 49 } : Room)) (fun a U => a = #[(.ref r0), (.ref r1), .null] ∧ Z.Warmed39 U.vm ∧ U.heap = h0) (fun _ _ _ _ _ => True) (fun _ U o U' => ∃ v L, o = .returned v ∧ QSN45_20 Z r0 r1 tb kd vd cst fv h0 n0 v U'.heap L ∧ FrameEnd U o U' L ({ frames := 3, cells := 1, slots := 20, locals := 49 } : Room).cells ({ frames := 3, cells := 1, slots := 20, locals := 49 } : Room).slots) := by
 refine MetFree.of_bodySF (plainFor_of_name pnc_java_lang_String) hisR ?_
 intro p e s m args below meth c s₁ Bd hml0 hP hK
 obtain ⟨rfl, hZ, hh⟩ := hP
 have hx := Bd.exec
 have hby := Bd.bytes
 have hml : c.maxLocals = 5 := hml0
 have hown : s.vm.findClass "java/lang/String" = some m.cls := findClass_of_methodNamed Bd.named
 have hnm := (name_of_methodNamed Bd.named Bd.method).1
 have X0 : Stand p l e ({ frames := 3, cells := 1, slots := 20, locals := 49 } : Room) s m #[(.ref r0), (.ref r1), .null] below meth c s₁ [] 0 0 := Stand.of_body Bd
 have e0 : s₁.heap = h0 := by rw [← hh, Bd.state]; rfl
 have N0 := Fr.nil n0
 have kp0 : Keep h0 h0 [r0] := Keep.refl _ _
 have G0 : ∀ t, Steps p.tables e below (s₁.setTop (mkF m 0 #[rv r0, rv r1, .val .null, .unset, .unset] [])) t → Steps p.tables e below (s₁.setTop (entryFrame m #[(.ref r0), (.ref r1), .null] 5)) t := fun t k => castTop (ef_rmSN45_20 m r0 r1) k
 obtain ⟨T1, X1, e1, st1⟩ := initO X0 hx hZ hown (hq hw 63 rfl) (hq hw 25 rfl) (hq hw 26 rfl) e0 (g := (mkF m 1 #[rv r0, rv r1, .val .null, .unset, .unset] [(.ref r0)])) rfl (by rw [hml]; rfl) rfl (hb hby d45_1) (by decide) (W := 0) (by show 2 * 0 + _ ≤ _; exact Nat.le_of_eq rfl) (by decide)
 obtain ⟨cq2, kq2, q2a, q2b, q2c⟩ := isOf hZ e1 Ey
 obtain ⟨_, _, ⟨T2, L2, k2, n2⟩, -, X2, ⟨Lc2, hQ2, l2, y2, z2⟩, st2⟩ := X1.virtualBack hx (y := (⟨"java/lang/AbstractStringBuilder", "getValue", "()[B"⟩ : MethodName)) (z := (⟨"java/lang/AbstractStringBuilder", "getValue", "()[B"⟩ : MethodName)) hown (mvT hZ (hq hw 244 rfl)) (mvT hZ (hq hw 245 rfl)) (notFace_of_selects (args := #[]) (mvT hZ (hq hw 247 rfl))) (mvT hZ (hq hw 247 rfl)) (mvT hZ (hq hw 246 rfl)) (by decide) (backOf (W := 0) (rm46 l Z a0 hw [] r1 tb h0 n0 Z0 Fvy ) hZ (hq hw 248 rfl) (hq hw 145 rfl) (by decide) (by decide)) q2a q2c (g := (mkF m 5 #[rv r0, rv r1, .val .null, .unset, .unset] [(.ref r1)])) rfl (by rw [hml]; rfl) (Steps.refl _) (argsL := []) (rest := []) (lenOf pd_24 rfl) rfl (by show 2 * 0 + _ ≤ _; exact Nat.le_of_eq rfl) (hb hby d45_5) (fun _ _ => ⟨rfl, e1, (by decide : 0 + 0 ≤ _), (by decide : 0 + 0 ≤ _)⟩)
 dsimp only [Pt.U, Pt.locs, Pt.cells, Pt.slots] at X2 l2 y2 z2 st2 hQ2
 subst l2 y2 z2
 obtain ⟨rfl, N2q, eh2⟩ := hQ2
 have N2 := Fr.app N0 N2q
 obtain ⟨cq3, kq3, q3a, q3b, q3c⟩ := isOf hZ eh2 Ey
 obtain ⟨_, _, ⟨T3, L3, k3, n3⟩, -, X3, ⟨Lc3, hQ3, l3, y3, z3⟩, st3⟩ := X2.virtualBack hx (y := (⟨"java/lang/AbstractStringBuilder", "length", "()I"⟩ : MethodName)) (z := (⟨"java/lang/StringBuilder", "length", "()I"⟩ : MethodName)) hown (mvT hZ (hq hw 249 rfl)) (mvT hZ (hq hw 250 rfl)) (own_nf (a0 := #[]) (mvT hZ (hq hw 229 rfl)) (mvT hZ (hq hw 228 rfl)) rfl) (mvT hZ (hq hw 252 rfl)) (mvT hZ (hq hw 253 rfl)) (by decide) (backOf (W := 0) (rm47 l Z a0 hw [] r1 (20 : Int32) h0 n0 Z0 Ey Fny ) hZ (hq hw 254 rfl) (hq hw 136 rfl) (by decide) (by decide)) q3a q3c (g := (mkF m 10 #[rv r0, rv r1, .val .null, rv tb, .unset] [(.ref r1)])) rfl (by rw [hml]; rfl) (Steps.refl _) (argsL := []) (rest := []) (lenOf pd_19 rfl) rfl (by show 2 * 0 + _ ≤ _; exact Nat.le_of_eq rfl) (hb hby d45_10) (fun _ _ => ⟨rfl, eh2, (by decide : 0 + 0 ≤ _), (by decide : 0 + 0 ≤ _)⟩)
 dsimp only [Pt.U, Pt.locs, Pt.cells, Pt.slots] at X3 l3 y3 z3 st3 hQ3
 subst l3 y3 z3
 obtain ⟨rfl, N3q, eh3⟩ := hQ3
 have N3 := Fr.app N2 N3q
 obtain ⟨cq4, kq4, q4a, q4b, q4c⟩ := isOf hZ eh3 Ey
 obtain ⟨_, _, ⟨T4, L4, k4, n4⟩, -, X4, ⟨Lc4, hQ4, l4, y4, z4⟩, st4⟩ := X3.virtualBack hx (y := (⟨"java/lang/AbstractStringBuilder", "isLatin1", "()Z"⟩ : MethodName)) (z := (⟨"java/lang/AbstractStringBuilder", "isLatin1", "()Z"⟩ : MethodName)) hown (mvT hZ (hq hw 257 rfl)) (mvT hZ (hq hw 227 rfl)) (notFace_of_selects (args := #[]) (mvT hZ (hq hw 229 rfl))) (mvT hZ (hq hw 229 rfl)) (mvT hZ (hq hw 228 rfl)) (by decide) (backOf (W := 0) (rm42 l Z a0 hw [] r1  cst fv h0 n0 Z0 Fcy O0  SS) hZ (hq hw 230 rfl) (hq hw 145 rfl) (by decide) (by decide)) q4a q4c (g := (mkF m 16 #[rv r0, rv r1, .val .null, rv tb, iv 20] [(.ref r1)])) rfl (by rw [hml]; rfl) (Steps.refl _) (argsL := []) (rest := []) (lenOf pd_3 rfl) rfl (by show 2 * 0 + _ ≤ _; exact Nat.le_of_eq rfl) (hb hby d45_16) (fun _ _ => ⟨rfl, eh3, (by decide : 0 + 0 ≤ _), (by decide : 0 + 0 ≤ _)⟩)
 dsimp only [Pt.U, Pt.locs, Pt.cells, Pt.slots] at X4 l4 y4 z4 st4 hQ4
 subst l4 y4 z4
 obtain ⟨rfl, N4q, eh4⟩ := hQ4
 have N4 := Fr.app N3 N4q
 have G5 : ∀ t, Steps p.tables e below (T4.setTop (mkF m 19 #[rv r0, rv r1, .val .null, rv tb, iv 20] [(.int (1 : Int32))])) t → Steps p.tables e below (s₁.setTop (entryFrame m #[(.ref r0), (.ref r1), .null] 5)) t := by
  intro t kt
  refine G0 _ ?_
  refine XS.aloadN X0.here hx rfl (hb hby d45_0) rfl rfl ?_
  refine st1 _ ?_
  refine XS.aloadN X1.here hx rfl (hb hby d45_4) rfl rfl ?_
  refine st2.trans ?_
  refine XS.astoreN X2.here hx rfl (hb hby d45_8) rfl rfl (l' := #[rv r0, rv r1, .val .null, rv tb, .unset]) rfl ?_
  refine XS.aloadN X2.here hx rfl (hb hby d45_9) rfl rfl ?_
  refine st3.trans ?_
  refine XS.istore X3.here hx rfl (hb hby d45_13) rfl (l' := #[rv r0, rv r1, .val .null, rv tb, iv 20]) rfl ?_
  refine XS.aloadN X3.here hx rfl (hb hby d45_15) rfl rfl ?_
  refine st4.trans ?_
  exact kt
 obtain ⟨T6, h6, X6, e6, W6, st6⟩ := putFN X4 hx hZ hown (hq hw 65 rfl) Via.refl eh4 Fc E0 (Or.inr ⟨(hq hw 10 rfl), rfl, hnm⟩) (hq hw 7 rfl) (ty := .byte) (v' := (.int (0 : Int32))) (by decide) rfl (fits_nar_byte (0 : Int32)) (g := (mkF m 24 #[rv r0, rv r1, .val .null, rv tb, iv 20] [(.int (0 : Int32)), (.ref r0)])) rfl rfl (hb hby d45_24)
 have fa7 := E0.wr W6
 have fa8 := Fv.other W6 (Or.inr (slot_ne (Or.inr (hq hw 9 rfl)) (Or.inr (hq hw 10 rfl)) (by decide) (t := (.array .byte)) (t' := .byte) (by decide) (by decide)))
 have fa9 : Fld Z h6 r0 "java/lang/String" "coder" "B" (.int (0 : Int32)) := Fc.same W6
 have fa10 := Ey.wr W6
 have fa11 := Fny.other W6 (Or.inl (Ne.symm dq_01))
 have fa12 := Fcy.other W6 (Or.inl (Ne.symm dq_01))
 have fa13 := Fvy.other W6 (Or.inl (Ne.symm dq_01))
 have fa14 := Vd.other W6 (Ne.symm dq_0b)
 have fa15 := O0.wr W6 g_r0
 have z16 : n0 ≤ h6.size := Nat.le_trans Z0 (Nat.le_of_eq W6.size.symm)
 have kp17 : Keep h0 h6 [r0] := kp0.wr W6 (Or.inl (List.mem_of_getElem? (i := 0) rfl))
 have N6 := Fr.snoc X6 N4 g_r0
 obtain ⟨_, _, ⟨T18, L18, k18, n18⟩, -, X18, ⟨Lc18, hQ18, l18, y18, z18⟩, st18⟩ := Jvm.LawKit.callS X6 hx (y := (⟨"java/util/Arrays", "copyOfRange", "([BII)[B"⟩ : MethodName)) hown (mvT hZ (hq hw 258 rfl)) (mvT hZ (hq hw 259 rfl)) (mvT hZ (hq hw 190 rfl)) (mvT hZ (hq hw 260 rfl)) (by decide) (backOf (W := 1) (rmCQ20 l Z a0 hw [] tb kd vd h6 n0 z16 fa14 ) hZ (hq hw 260 rfl) (hq hw 190 rfl) (by decide) (by decide)) (g := (mkF m 32 #[rv r0, rv r1, .val .null, rv tb, iv 20] [(.int (20 : Int32)), (.int (0 : Int32)), (.ref tb), (.ref r0)])) rfl (by rw [hml]; rfl) (argsL := [(.ref tb), (.int (0 : Int32)), (.int (20 : Int32))]) (rest := [(.ref r0)]) (lenOf pd_23 rfl) rfl (by show 2 * 0 + _ ≤ _; exact Nat.le_of_eq rfl) (hb hby d45_32) (fun _ _ => ⟨rfl, e6, (by decide : 0 + 1 ≤ _), (by decide : 0 + 20 ≤ _)⟩)
 dsimp only [Pt.U, Pt.locs, Pt.cells, Pt.slots] at X18 l18 y18 z18 st18 hQ18
 subst l18 y18 z18
 obtain ⟨bc18, kb18, rfl, N18q, K18, g_bc18, sz18, V18⟩ := hQ18
 have N18 := Fr.app N6 N18q
 have szk18 : h0.size ≤ bc18 := Nat.le_trans kp17.1 sz18
 have ne_r0_bc18 : r0 ≠ bc18 := Nat.ne_of_lt (Nat.lt_of_lt_of_le fa7.lt sz18)
 have ne_r1_bc18 : r1 ≠ bc18 := Nat.ne_of_lt (Nat.lt_of_lt_of_le fa10.lt sz18)
 have ne_tb_bc18 : tb ≠ bc18 := Nat.ne_of_lt (Nat.lt_of_lt_of_le fa14.lt sz18)
 have fa19 := fa7.keep K18
 have fa20 := fa8.keep K18 nin0
 have fa21 := fa9.keep K18 nin0
 have fa22 := fa10.keep K18
 have fa23 := fa11.keep K18 nin0
 have fa24 := fa12.keep K18 nin0
 have fa25 := fa13.keep K18 nin0
 have fa26 := fa14.keep K18 nin0
 have fa27 := fa15.keep K18 all0
 have z28 : n0 ≤ T18.heap.size := Nat.le_trans z16 K18.1
 have kp29 : Keep h0 T18.heap [r0] := kp17.trans K18 all0
 obtain ⟨T30, h30, X30, e30, W30, st30⟩ := putF X18 hx hZ hown (host := "") (Or.inl (hq hw 64 rfl)) Via.refl rfl fa20 fa19 (Or.inr ⟨(hq hw 9 rfl), rfl, hnm⟩) (hq hw 7 rfl) (ty := (.array .byte)) (by decide) rfl rfl (g := (mkF m 35 #[rv r0, rv r1, .val .null, rv tb, iv 20] [(.ref bc18), (.ref r0)])) rfl rfl (hb hby d45_35)
 have fa31 := fa19.wr W30
 have fa32 : Fld Z h30 r0 "java/lang/String" "value" "[B" (.ref bc18) := fa20.same W30
 have fa33 := fa21.other W30 (Or.inr (slot_ne (Or.inr (hq hw 10 rfl)) (Or.inr (hq hw 9 rfl)) (by decide) (t := .byte) (t' := (.array .byte)) (by decide) (by decide)))
 have fa34 := fa22.wr W30
 have fa35 := fa23.other W30 (Or.inl (Ne.symm dq_01))
 have fa36 := fa24.other W30 (Or.inl (Ne.symm dq_01))
 have fa37 := fa25.other W30 (Or.inl (Ne.symm dq_01))
 have fa38 := fa26.other W30 (Ne.symm dq_0b)
 have fa39 := fa27.wr W30 g_r0
 have fa40 := V18.other W30 (Ne.symm ne_r0_bc18)
 have z41 : n0 ≤ h30.size := Nat.le_trans z28 (Nat.le_of_eq W30.size.symm)
 have kp42 : Keep h0 h30 [r0] := kp29.wr W30 (Or.inl (List.mem_of_getElem? (i := 0) rfl))
 have N30 := Fr.snoc X30 N18 g_r0
 obtain ⟨fs, hr, hrun, hended, hW, hsame⟩ := X30.leave (v := none) (fun _ => rfl)
 refine ⟨_, _, G5 _ ?_, hrun, hended, _, _, rfl, ?_, ⟨_, rfl⟩, hW, hsame.mono (by decide) (by decide)⟩
 ·skip
  refine XS.ifNo X4.here hx rfl (hb hby d45_19) rfl ((if0 _ _).trans (feq (by decide)).1) ?_
  refine XS.aloadN X4.here hx rfl (hb hby d45_22) rfl rfl ?_
  refine XS.iconst X4.here hx rfl (hb hby d45_23) ?_
  refine st6 _ ?_
  refine XS.aloadN X6.here hx rfl (hb hby d45_27) rfl rfl ?_
  refine XS.aloadN X6.here hx rfl (hb hby d45_28) rfl rfl ?_
  refine XS.iconst X6.here hx rfl (hb hby d45_29) ?_
  refine XS.iload X6.here hx rfl (hb hby d45_30) rfl ?_
  refine st18 _ ?_
  refine st30 _ ?_
  show Steps p.tables e below (T30.setTop (mkF m 38 #[rv r0, rv r1, .val .null, rv tb, iv 20] [])) _
  refine XS.goto X30.here hx rfl (pc0 := 38) (pc' := 97) rfl (hb hby d45_38) (by decide) (by decide) ?_
  exact X30.returnOut hx Bd.returns (hb hby d45_97) hr
 ·show QSN45_20 Z r0 r1 tb kd vd cst fv h0 n0 _ T30.heap _
  rw [e30]
  exact ⟨rfl, N30, kp42, fa33, bc18, kb18, fa32, fa40, szk18⟩
theorem d44_0 : decode jdk_42_method_53_code 0 = .ok (.aload_n 0, 1) := by decide +kernel
theorem d44_1 : decode jdk_42_method_53_code 1 = .ok (.aload_n 1, 1) := by decide +kernel
theorem d44_2 : decode jdk_42_method_53_code 2 = .ok (.aconst_null, 1) := by decide +kernel
theorem d44_3 : decode jdk_42_method_53_code 3 = .ok (.invokespecial 489, 3) := by decide +kernel
theorem pd_25 : parseMethodDescriptor "(Ljava/lang/AbstractStringBuilder;Ljava/lang/Void;)V" = some ⟨[(.object "java/lang/AbstractStringBuilder"), (.object "java/lang/Void")], none⟩ := by decide +kernel
theorem d44_6 : decode jdk_42_method_53_code 6 = .ok (.return_, 1) := by decide +kernel
def QSN44_19 (Z : State) (r0 : Addr) (r1 : Addr) (tb : Addr) (kd : ClassId) (vd : List Value) (cst : Int32) (fv : Value) (h0 : Heap) (n0 : Nat) (v : Option Value) (h : Heap) (L : List Loc) : Prop := v = none ∧ Fr n0 L ∧ Keep h0 h [r0] ∧ Fld Z h r0 "java/lang/String" "coder" "B" (.int (0 : Int32)) ∧ ∃ (t : Addr) (k : ClassId), Fld Z h r0 "java/lang/String" "value" "[B" (.ref t) ∧ Arv Z h t k .byte (19 : Int32) (own_cp (List.replicate 19 (Value.int (0 : Int32))) vd (0 : Int32) (19 : Int32)) (.int (0 : Int32)) ∧ h0.size ≤ t
theorem ef_rmSN44_19 (m : MethodId) (x0 : Addr) (x1 : Addr) : entryFrame m #[(.ref x0), (.ref x1)] 2 = mkF m 0 #[.val (.ref x0), .val (.ref x1)] [] := by first | (simp [entryFrame, mkF, argsToLocals, Value.category]; done) | rfl
set_option maxRecDepth 65536 in
set_option maxHeartbeats 40000000 in
theorem rmSN44_19 (l : Launch) (Z : State) (a0 : Array Value) (hw : ∀ d ∈ tables_1, d.before a0 Z = true) (ws : List Jvm.Cond) (r0 : Addr) (r1 : Addr) (tb : Addr) (kd : ClassId) (vd : List Value) (cst : Int32) (fv : Value) (h0 : Heap) (n0 : Nat) (Z0 : n0 ≤ h0.size) (E0 : Exa Z h0 r0 "java/lang/String") (Fv : Fld Z h0 r0 "java/lang/String" "value" "[B" .null) (Fc : Fld Z h0 r0 "java/lang/String" "coder" "B" (.int (0 : Int32))) (Ey : Exa Z h0 r1 "java/lang/StringBuilder") (Fny : Fld Z h0 r1 "java/lang/AbstractStringBuilder" "count" "I" (.int (19 : Int32))) (Fcy : Fld Z h0 r1 "java/lang/AbstractStringBuilder" "coder" "B" (.int (0 : Int32))) (Fvy : Fld Z h0 r1 "java/lang/AbstractStringBuilder" "value" "[B" (.ref tb)) (Vd : Arv Z h0 tb kd .byte (34 : Int32) vd (.int (0 : Int32))) (O0 : Old Z n0 h0) (g_r0 : n0 ≤ r0) (dq_01 : r0 ≠ r1) (dq_0b : r0 ≠ tb) (SS : Sts Z cst fv) :
  MetFree l (⟨"java/lang/String", "<init>", "(Ljava/lang/StringBuilder;)V"⟩ : MethodName) (head1 (Jvm.Cond.code (⟨"java/lang/String", "<init>", "(Ljava/lang/StringBuilder;)V"⟩ : MethodName) jdk_42_method_53_code 2 none :: ws) ({ frames := 4, cells := 1, slots := 19, locals := 65 } : Room)) (fun a U => a = #[(.ref r0), (.ref r1)] ∧ Z.Warmed39 U.vm ∧ U.heap = h0) (fun _ _ _ _ _ => True) (fun _ U o U' => ∃ v L, o = .returned v ∧ QSN44_19 Z r0 r1 tb kd vd cst fv h0 n0 v U'.heap L ∧ FrameEnd U o U' L ({ frames := 4, cells := 1, slots := 19, locals := 65 } : Room).cells ({ frames := 4, cells := 1, slots := 19, locals := 65 } : Room).slots) := by
 refine MetFree.of_bodySF (plainFor_of_name pnc_java_lang_String) hisR ?_
 intro p e s m args below meth c s₁ Bd hml0 hP hK
 obtain ⟨rfl, hZ, hh⟩ := hP
 have hx := Bd.exec
 have hby := Bd.bytes
 have hml : c.maxLocals = 2 := hml0
 have hown : s.vm.findClass "java/lang/String" = some m.cls := findClass_of_methodNamed Bd.named
 have hnm := (name_of_methodNamed Bd.named Bd.method).1
 have X0 : Stand p l e ({ frames := 4, cells := 1, slots := 19, locals := 65 } : Room) s m #[(.ref r0), (.ref r1)] below meth c s₁ [] 0 0 := Stand.of_body Bd
 have e0 : s₁.heap = h0 := by rw [← hh, Bd.state]; rfl
 have N0 := Fr.nil n0
 have kp0 : Keep h0 h0 [r0] := Keep.refl _ _
 have G0 : ∀ t, Steps p.tables e below (s₁.setTop (mkF m 0 #[rv r0, rv r1] [])) t → Steps p.tables e below (s₁.setTop (entryFrame m #[(.ref r0), (.ref r1)] 2)) t := fun t k => castTop (ef_rmSN44_19 m r0 r1) k
 obtain ⟨_, _, ⟨T1, L1, k1, n1⟩, -, X1, ⟨Lc1, hQ1, l1, y1, z1⟩, st1⟩ := X0.specialBack hx (y := (⟨"java/lang/String", "<init>", "(Ljava/lang/AbstractStringBuilder;Ljava/lang/Void;)V"⟩ : MethodName)) rfl hown (mvT hZ (hq hw 241 rfl)) (mvT hZ (hq hw 242 rfl)) (mvT hZ (hq hw 243 rfl)) (by decide) (backOf (W := 0) (rmSN45_19 l Z a0 hw [] r0 r1 tb kd vd cst fv h0 n0 Z0 E0 Fv Fc Ey Fny Fcy Fvy Vd O0 g_r0 dq_01 dq_0b SS) hZ (hq hw 243 rfl) (hq hw 6 rfl) (by decide) (by decide)) (g := (mkF m 3 #[rv r0, rv r1] [.null, (.ref r1), (.ref r0)])) rfl (by rw [hml]; rfl) (Steps.refl _) (a := r0) (argsL := [(.ref r1), .null]) (rest := []) (lenOf pd_25 rfl) rfl (by show 2 * 0 + _ ≤ _; exact Nat.le_of_eq rfl) (hb hby d44_3) (fun _ _ => ⟨rfl, e0, (by decide : 0 + 1 ≤ _), (by decide : 0 + 19 ≤ _)⟩)
 dsimp only [Pt.U, Pt.locs, Pt.cells, Pt.slots] at X1 l1 y1 z1 st1 hQ1
 subst l1 y1 z1
 obtain ⟨rfl, N1q, K1, Fc1, tn1, kb1, Fv1, V1, zt1⟩ := hQ1
 have N1 := Fr.app N0 N1q
 have ztk1 : h0.size ≤ tn1 := Nat.le_trans kp0.1 zt1
 have fa2 := E0.keep K1
 have fa3 := Ey.keep K1
 have fa4 := Fny.keep K1 (ninS (Ne.symm dq_01) nin0)
 have fa5 := Fcy.keep K1 (ninS (Ne.symm dq_01) nin0)
 have fa6 := Fvy.keep K1 (ninS (Ne.symm dq_01) nin0)
 have fa7 := Vd.keep K1 (ninS (Ne.symm dq_0b) nin0)
 have fa8 := O0.keep K1 (allS g_r0 all0)
 have z9 : n0 ≤ T1.heap.size := Nat.le_trans Z0 K1.1
 have kp10 : Keep h0 T1.heap [r0] := kp0.trans K1 (allS (Or.inl (List.mem_of_getElem? (i := 0) rfl)) all0)
 obtain ⟨fs, hr, hrun, hended, hW, hsame⟩ := X1.leave (v := none) (fun _ => rfl)
 refine ⟨_, _, G0 _ ?_, hrun, hended, _, _, rfl, ?_, ⟨_, rfl⟩, hW, hsame.mono (by decide) (by decide)⟩
 ·skip
  refine XS.aloadN X0.here hx rfl (hb hby d44_0) rfl rfl ?_
  refine XS.aloadN X0.here hx rfl (hb hby d44_1) rfl rfl ?_
  refine XS.aconstNull X0.here hx rfl (hb hby d44_2) ?_
  refine st1.trans ?_
  exact X1.returnOut hx Bd.returns (hb hby d44_6) hr
 ·show QSN44_19 Z r0 r1 tb kd vd cst fv h0 n0 _ T1.heap _
  exact ⟨rfl, N1, kp10, Fc1, tn1, kb1, Fv1, V1, ztk1⟩
def QSN44_20 (Z : State) (r0 : Addr) (r1 : Addr) (tb : Addr) (kd : ClassId) (vd : List Value) (cst : Int32) (fv : Value) (h0 : Heap) (n0 : Nat) (v : Option Value) (h : Heap) (L : List Loc) : Prop := v = none ∧ Fr n0 L ∧ Keep h0 h [r0] ∧ Fld Z h r0 "java/lang/String" "coder" "B" (.int (0 : Int32)) ∧ ∃ (t : Addr) (k : ClassId), Fld Z h r0 "java/lang/String" "value" "[B" (.ref t) ∧ Arv Z h t k .byte (20 : Int32) (own_cp (List.replicate 20 (Value.int (0 : Int32))) vd (0 : Int32) (20 : Int32)) (.int (0 : Int32)) ∧ h0.size ≤ t
theorem ef_rmSN44_20 (m : MethodId) (x0 : Addr) (x1 : Addr) : entryFrame m #[(.ref x0), (.ref x1)] 2 = mkF m 0 #[.val (.ref x0), .val (.ref x1)] [] := by first | (simp [entryFrame, mkF, argsToLocals, Value.category]; done) | rfl
set_option maxRecDepth 65536 in
set_option maxHeartbeats 40000000 in
theorem rmSN44_20 (l : Launch) (Z : State) (a0 : Array Value) (hw : ∀ d ∈ tables_1, d.before a0 Z = true) (ws : List Jvm.Cond) (r0 : Addr) (r1 : Addr) (tb : Addr) (kd : ClassId) (vd : List Value) (cst : Int32) (fv : Value) (h0 : Heap) (n0 : Nat) (Z0 : n0 ≤ h0.size) (E0 : Exa Z h0 r0 "java/lang/String") (Fv : Fld Z h0 r0 "java/lang/String" "value" "[B" .null) (Fc : Fld Z h0 r0 "java/lang/String" "coder" "B" (.int (0 : Int32))) (Ey : Exa Z h0 r1 "java/lang/StringBuilder") (Fny : Fld Z h0 r1 "java/lang/AbstractStringBuilder" "count" "I" (.int (20 : Int32))) (Fcy : Fld Z h0 r1 "java/lang/AbstractStringBuilder" "coder" "B" (.int (0 : Int32))) (Fvy : Fld Z h0 r1 "java/lang/AbstractStringBuilder" "value" "[B" (.ref tb)) (Vd : Arv Z h0 tb kd .byte (34 : Int32) vd (.int (0 : Int32))) (O0 : Old Z n0 h0) (g_r0 : n0 ≤ r0) (dq_01 : r0 ≠ r1) (dq_0b : r0 ≠ tb) (SS : Sts Z cst fv) :
  MetFree l (⟨"java/lang/String", "<init>", "(Ljava/lang/StringBuilder;)V"⟩ : MethodName) (head1 (Jvm.Cond.code (⟨"java/lang/String", "<init>", "(Ljava/lang/StringBuilder;)V"⟩ : MethodName) jdk_42_method_53_code 2 none :: ws) ({ frames := 4, cells := 1, slots := 20, locals := 65 } : Room)) (fun a U => a = #[(.ref r0), (.ref r1)] ∧ Z.Warmed39 U.vm ∧ U.heap = h0) (fun _ _ _ _ _ => True) (fun _ U o U' => ∃ v L, o = .returned v ∧ QSN44_20 Z r0 r1 tb kd vd cst fv h0 n0 v U'.heap L ∧ FrameEnd U o U' L ({ frames := 4, cells := 1, slots := 20, locals := 65 } : Room).cells ({ frames := 4, cells := 1, slots := 20, locals := 65 } : Room).slots) := by
 refine MetFree.of_bodySF (plainFor_of_name pnc_java_lang_String) hisR ?_
 intro p e s m args below meth c s₁ Bd hml0 hP hK
 obtain ⟨rfl, hZ, hh⟩ := hP
 have hx := Bd.exec
 have hby := Bd.bytes
 have hml : c.maxLocals = 2 := hml0
 have hown : s.vm.findClass "java/lang/String" = some m.cls := findClass_of_methodNamed Bd.named
 have hnm := (name_of_methodNamed Bd.named Bd.method).1
 have X0 : Stand p l e ({ frames := 4, cells := 1, slots := 20, locals := 65 } : Room) s m #[(.ref r0), (.ref r1)] below meth c s₁ [] 0 0 := Stand.of_body Bd
 have e0 : s₁.heap = h0 := by rw [← hh, Bd.state]; rfl
 have N0 := Fr.nil n0
 have kp0 : Keep h0 h0 [r0] := Keep.refl _ _
 have G0 : ∀ t, Steps p.tables e below (s₁.setTop (mkF m 0 #[rv r0, rv r1] [])) t → Steps p.tables e below (s₁.setTop (entryFrame m #[(.ref r0), (.ref r1)] 2)) t := fun t k => castTop (ef_rmSN44_20 m r0 r1) k
 obtain ⟨_, _, ⟨T1, L1, k1, n1⟩, -, X1, ⟨Lc1, hQ1, l1, y1, z1⟩, st1⟩ := X0.specialBack hx (y := (⟨"java/lang/String", "<init>", "(Ljava/lang/AbstractStringBuilder;Ljava/lang/Void;)V"⟩ : MethodName)) rfl hown (mvT hZ (hq hw 241 rfl)) (mvT hZ (hq hw 242 rfl)) (mvT hZ (hq hw 243 rfl)) (by decide) (backOf (W := 0) (rmSN45_20 l Z a0 hw [] r0 r1 tb kd vd cst fv h0 n0 Z0 E0 Fv Fc Ey Fny Fcy Fvy Vd O0 g_r0 dq_01 dq_0b SS) hZ (hq hw 243 rfl) (hq hw 6 rfl) (by decide) (by decide)) (g := (mkF m 3 #[rv r0, rv r1] [.null, (.ref r1), (.ref r0)])) rfl (by rw [hml]; rfl) (Steps.refl _) (a := r0) (argsL := [(.ref r1), .null]) (rest := []) (lenOf pd_25 rfl) rfl (by show 2 * 0 + _ ≤ _; exact Nat.le_of_eq rfl) (hb hby d44_3) (fun _ _ => ⟨rfl, e0, (by decide : 0 + 1 ≤ _), (by decide : 0 + 20 ≤ _)⟩)
 dsimp only [Pt.U, Pt.locs, Pt.cells, Pt.slots] at X1 l1 y1 z1 st1 hQ1
 subst l1 y1 z1
 obtain ⟨rfl, N1q, K1, Fc1, tn1, kb1, Fv1, V1, zt1⟩ := hQ1
 have N1 := Fr.app N0 N1q
 have ztk1 : h0.size ≤ tn1 := Nat.le_trans kp0.1 zt1
 have fa2 := E0.keep K1
 have fa3 := Ey.keep K1
 have fa4 := Fny.keep K1 (ninS (Ne.symm dq_01) nin0)
 have fa5 := Fcy.keep K1 (ninS (Ne.symm dq_01) nin0)
 have fa6 := Fvy.keep K1 (ninS (Ne.symm dq_01) nin0)
 have fa7 := Vd.keep K1 (ninS (Ne.symm dq_0b) nin0)
 have fa8 := O0.keep K1 (allS g_r0 all0)
 have z9 : n0 ≤ T1.heap.size := Nat.le_trans Z0 K1.1
 have kp10 : Keep h0 T1.heap [r0] := kp0.trans K1 (allS (Or.inl (List.mem_of_getElem? (i := 0) rfl)) all0)
 obtain ⟨fs, hr, hrun, hended, hW, hsame⟩ := X1.leave (v := none) (fun _ => rfl)
 refine ⟨_, _, G0 _ ?_, hrun, hended, _, _, rfl, ?_, ⟨_, rfl⟩, hW, hsame.mono (by decide) (by decide)⟩
 ·skip
  refine XS.aloadN X0.here hx rfl (hb hby d44_0) rfl rfl ?_
  refine XS.aloadN X0.here hx rfl (hb hby d44_1) rfl rfl ?_
  refine XS.aconstNull X0.here hx rfl (hb hby d44_2) ?_
  refine st1.trans ?_
  exact X1.returnOut hx Bd.returns (hb hby d44_6) hr
 ·show QSN44_20 Z r0 r1 tb kd vd cst fv h0 n0 _ T1.heap _
  exact ⟨rfl, N1, kp10, Fc1, tn1, kb1, Fv1, V1, ztk1⟩
theorem d43_0 : decode jdk_67_method_42_code 0 = .ok (.new 18, 3) := by decide +kernel
theorem d43_3 : decode jdk_67_method_42_code 3 = .ok (.dup, 1) := by decide +kernel
theorem d43_4 : decode jdk_67_method_42_code 4 = .ok (.aload_n 0, 1) := by decide +kernel
theorem d43_5 : decode jdk_67_method_42_code 5 = .ok (.invokespecial 137, 3) := by decide +kernel
theorem pd_26 : parseMethodDescriptor "(Ljava/lang/StringBuilder;)V" = some ⟨[(.object "java/lang/StringBuilder")], none⟩ := by decide +kernel
theorem d43_8 : decode jdk_67_method_42_code 8 = .ok (.areturn, 1) := by decide +kernel
def QTS19 (Z : State) (r0 : Addr) (tb : Addr) (kd : ClassId) (vd : List Value) (cst : Int32) (fv : Value) (h0 : Heap) (n0 : Nat) (v : Option Value) (h : Heap) (L : List Loc) : Prop := ∃ (s t : Addr) (k : ClassId), v = some (.ref s) ∧ Fr n0 L ∧ Keep h0 h [] ∧ Exa Z h s "java/lang/String" ∧ Fld Z h s "java/lang/String" "coder" "B" (.int (0 : Int32)) ∧ Fld Z h s "java/lang/String" "value" "[B" (.ref t) ∧ Arv Z h t k .byte (19 : Int32) (own_cp (List.replicate 19 (Value.int (0 : Int32))) vd (0 : Int32) (19 : Int32)) (.int (0 : Int32)) ∧ h0.size ≤ s ∧ h0.size ≤ t
theorem ef_rmTS19 (m : MethodId) (x0 : Addr) : entryFrame m #[(.ref x0)] 1 = mkF m 0 #[.val (.ref x0)] [] := by first | (simp [entryFrame, mkF, argsToLocals, Value.category]; done) | rfl
set_option maxRecDepth 65536 in
set_option maxHeartbeats 40000000 in
theorem rmTS19 (l : Launch) (Z : State) (a0 : Array Value) (hw : ∀ d ∈ tables_1, d.before a0 Z = true) (ws : List Jvm.Cond) (r0 : Addr) (tb : Addr) (kd : ClassId) (vd : List Value) (cst : Int32) (fv : Value) (h0 : Heap) (n0 : Nat) (Z0 : n0 ≤ h0.size) (Ey : Exa Z h0 r0 "java/lang/StringBuilder") (Fny : Fld Z h0 r0 "java/lang/AbstractStringBuilder" "count" "I" (.int (19 : Int32))) (Fcy : Fld Z h0 r0 "java/lang/AbstractStringBuilder" "coder" "B" (.int (0 : Int32))) (Fvy : Fld Z h0 r0 "java/lang/AbstractStringBuilder" "value" "[B" (.ref tb)) (Vd : Arv Z h0 tb kd .byte (34 : Int32) vd (.int (0 : Int32))) (O0 : Old Z n0 h0) (SS : Sts Z cst fv) :
  MetFree l (⟨"java/lang/StringBuilder", "toString", "()Ljava/lang/String;"⟩ : MethodName) (head1 (Jvm.Cond.code (⟨"java/lang/StringBuilder", "toString", "()Ljava/lang/String;"⟩ : MethodName) jdk_67_method_42_code 1 (some (.object "java/lang/String")) :: ws) ({ frames := 5, cells := 2, slots := 23, locals := 79 } : Room)) (fun a U => a = #[(.ref r0)] ∧ Z.Warmed39 U.vm ∧ U.heap = h0) (fun _ _ _ _ _ => True) (fun _ U o U' => ∃ v L, o = .returned v ∧ QTS19 Z r0 tb kd vd cst fv h0 n0 v U'.heap L ∧ FrameEnd U o U' L ({ frames := 5, cells := 2, slots := 23, locals := 79 } : Room).cells ({ frames := 5, cells := 2, slots := 23, locals := 79 } : Room).slots) := by
 refine MetFree.of_bodySF (plainFor_of_name pnc_java_lang_StringBuilder) hisR ?_
 intro p e s m args below meth c s₁ Bd hml0 hP hK
 obtain ⟨rfl, hZ, hh⟩ := hP
 have hx := Bd.exec
 have hby := Bd.bytes
 have hml : c.maxLocals = 1 := hml0
 have hown : s.vm.findClass "java/lang/StringBuilder" = some m.cls := findClass_of_methodNamed Bd.named
 have hnm := (name_of_methodNamed Bd.named Bd.method).1
 have X0 : Stand p l e ({ frames := 5, cells := 2, slots := 23, locals := 79 } : Room) s m #[(.ref r0)] below meth c s₁ [] 0 0 := Stand.of_body Bd
 have e0 : s₁.heap = h0 := by rw [← hh, Bd.state]; rfl
 have N0 := Fr.nil n0
 have kp0 : Keep h0 h0 [] := Keep.refl _ _
 have G0 : ∀ t, Steps p.tables e below (s₁.setTop (mkF m 0 #[rv r0] [])) t → Steps p.tables e below (s₁.setTop (entryFrame m #[(.ref r0)] 1)) t := fun t k => castTop (ef_rmTS19 m r0) k
 obtain ⟨T1, h1, X1, e1, E1, A1, D1, -, st1⟩ := newO X0 hx hZ hown (hq hw 237 rfl) (hq hw 7 rfl) (hq hw 6 rfl) e0 (g := (mkF m 0 #[rv r0] [])) rfl (hb hby d43_0) (by decide) (by decide)
 obtain ⟨b1, g1⟩ : ∃ z, z = h0.size := ⟨_, rfl⟩
 rw [← g1] at A1 D1 st1
 have g_b1 : n0 ≤ b1 := Nat.le_trans Z0 (Nat.le_of_eq g1.symm)
 have sz_b1 : h0.size ≤ b1 := Nat.le_trans kp0.1 (Nat.le_of_eq g1.symm)
 have ne_r0_b1 : r0 ≠ b1 := Nat.ne_of_lt (Nat.lt_of_lt_of_le Ey.lt (Nat.le_of_eq g1.symm))
 have ne_tb_b1 : tb ≠ b1 := Nat.ne_of_lt (Nat.lt_of_lt_of_le Vd.lt (Nat.le_of_eq g1.symm))
 have fa2 := Ey.ext E1
 have fa3 := Fny.ext E1
 have fa4 := Fcy.ext E1
 have fa5 := Fvy.ext E1
 have fa6 := Vd.ext E1
 have fa7 := O0.ext E1
 have z8 : n0 ≤ h1.size := Nat.le_trans Z0 E1.1
 have kp9 : Keep h0 h1 [] := kp0.ext E1
 have fa10 : Fld Z h1 b1 "java/lang/String" "value" "[B" .null := D1 (Or.inr (hq hw 9 rfl)) (ty := (.array .byte)) (by decide)
 have fa11 : Fld Z h1 b1 "java/lang/String" "coder" "B" (.int (0 : Int32)) := D1 (Or.inr (hq hw 10 rfl)) (ty := .byte) (by decide)
 obtain ⟨_, _, ⟨T12, L12, k12, n12⟩, -, X12, ⟨Lc12, hQ12, l12, y12, z12⟩, st12⟩ := X1.specialBack hx (y := (⟨"java/lang/String", "<init>", "(Ljava/lang/StringBuilder;)V"⟩ : MethodName)) rfl hown (mvT hZ (hq hw 238 rfl)) (mvT hZ (hq hw 239 rfl)) (mvT hZ (hq hw 240 rfl)) (by decide) (backOf (W := 1) (rmSN44_19 l Z a0 hw [] b1 r0 tb kd vd cst fv h1 n0 z8 A1 fa10 fa11 fa2 fa3 fa4 fa5 fa6 fa7 g_b1 (Ne.symm ne_r0_b1) (Ne.symm ne_tb_b1) SS) hZ (hq hw 240 rfl) (hq hw 6 rfl) (by decide) (by decide)) (g := (mkF m 5 #[rv r0] [(.ref r0), (.ref b1), (.ref b1)])) rfl (by rw [hml]; rfl) (Steps.refl _) (a := b1) (argsL := [(.ref r0)]) (rest := [(.ref b1)]) (lenOf pd_26 rfl) rfl (by show 2 * 0 + _ ≤ _; exact Nat.le_of_eq rfl) (hb hby d43_5) (fun _ _ => ⟨rfl, e1, (by decide : 1 + 1 ≤ _), (by decide : 4 + 19 ≤ _)⟩)
 dsimp only [Pt.U, Pt.locs, Pt.cells, Pt.slots] at X12 l12 y12 z12 st12 hQ12
 subst l12 y12 z12
 obtain ⟨rfl, N12q, K12, Fc12, tn12, kb12, Fv12, V12, zt12⟩ := hQ12
 have N12 := Fr.app N0 N12q
 have ztk12 : h0.size ≤ tn12 := Nat.le_trans kp9.1 zt12
 have fa13 := fa2.keep K12
 have fa14 := fa3.keep K12 (ninS ne_r0_b1 nin0)
 have fa15 := fa4.keep K12 (ninS ne_r0_b1 nin0)
 have fa16 := fa5.keep K12 (ninS ne_r0_b1 nin0)
 have fa17 := fa6.keep K12 (ninS ne_tb_b1 nin0)
 have fa18 := fa7.keep K12 (allS g_b1 all0)
 have fa19 := A1.keep K12
 have z20 : n0 ≤ T12.heap.size := Nat.le_trans z8 K12.1
 have kp21 : Keep h0 T12.heap [] := kp9.trans K12 (allS (Or.inr sz_b1) all0)
 obtain ⟨fs, hr, hrun, hended, hW, hsame⟩ := X12.leave (v := some (.ref b1)) (fun h => by rw [Bd.returns] at h; cases h)
 refine ⟨_, _, G0 _ ?_, hrun, hended, _, _, rfl, ?_, ⟨_, rfl⟩, hW, hsame.mono (by decide) (by decide)⟩
 ·skip
  refine st1 _ ?_
  refine XS.dup X1.here hx rfl (hb hby d43_3) rfl rfl ?_
  refine XS.aloadN X1.here hx rfl (hb hby d43_4) rfl rfl ?_
  refine st12.trans ?_
  exact retOut X12 hx Bd.returns rfl (Or.inr (Or.inr (Or.inr (Or.inr ⟨rfl, rfl, rfl⟩)))) (hb hby d43_8) hr
 ·show QTS19 Z r0 tb kd vd cst fv h0 n0 _ T12.heap _
  exact ⟨b1, tn12, kb12, rfl, N12, kp21, fa19, Fc12, Fv12, V12, sz_b1, ztk12⟩
def QTS20 (Z : State) (r0 : Addr) (tb : Addr) (kd : ClassId) (vd : List Value) (cst : Int32) (fv : Value) (h0 : Heap) (n0 : Nat) (v : Option Value) (h : Heap) (L : List Loc) : Prop := ∃ (s t : Addr) (k : ClassId), v = some (.ref s) ∧ Fr n0 L ∧ Keep h0 h [] ∧ Exa Z h s "java/lang/String" ∧ Fld Z h s "java/lang/String" "coder" "B" (.int (0 : Int32)) ∧ Fld Z h s "java/lang/String" "value" "[B" (.ref t) ∧ Arv Z h t k .byte (20 : Int32) (own_cp (List.replicate 20 (Value.int (0 : Int32))) vd (0 : Int32) (20 : Int32)) (.int (0 : Int32)) ∧ h0.size ≤ s ∧ h0.size ≤ t
theorem ef_rmTS20 (m : MethodId) (x0 : Addr) : entryFrame m #[(.ref x0)] 1 = mkF m 0 #[.val (.ref x0)] [] := by first | (simp [entryFrame, mkF, argsToLocals, Value.category]; done) | rfl
set_option maxRecDepth 65536 in
set_option maxHeartbeats 40000000 in
theorem rmTS20 (l : Launch) (Z : State) (a0 : Array Value) (hw : ∀ d ∈ tables_1, d.before a0 Z = true) (ws : List Jvm.Cond) (r0 : Addr) (tb : Addr) (kd : ClassId) (vd : List Value) (cst : Int32) (fv : Value) (h0 : Heap) (n0 : Nat) (Z0 : n0 ≤ h0.size) (Ey : Exa Z h0 r0 "java/lang/StringBuilder") (Fny : Fld Z h0 r0 "java/lang/AbstractStringBuilder" "count" "I" (.int (20 : Int32))) (Fcy : Fld Z h0 r0 "java/lang/AbstractStringBuilder" "coder" "B" (.int (0 : Int32))) (Fvy : Fld Z h0 r0 "java/lang/AbstractStringBuilder" "value" "[B" (.ref tb)) (Vd : Arv Z h0 tb kd .byte (34 : Int32) vd (.int (0 : Int32))) (O0 : Old Z n0 h0) (SS : Sts Z cst fv) :
  MetFree l (⟨"java/lang/StringBuilder", "toString", "()Ljava/lang/String;"⟩ : MethodName) (head1 (Jvm.Cond.code (⟨"java/lang/StringBuilder", "toString", "()Ljava/lang/String;"⟩ : MethodName) jdk_67_method_42_code 1 (some (.object "java/lang/String")) :: ws) ({ frames := 5, cells := 2, slots := 24, locals := 79 } : Room)) (fun a U => a = #[(.ref r0)] ∧ Z.Warmed39 U.vm ∧ U.heap = h0) (fun _ _ _ _ _ => True) (fun _ U o U' => ∃ v L, o = .returned v ∧ QTS20 Z r0 tb kd vd cst fv h0 n0 v U'.heap L ∧ FrameEnd U o U' L ({ frames := 5, cells := 2, slots := 24, locals := 79 } : Room).cells ({ frames := 5, cells := 2, slots := 24, locals := 79 } : Room).slots) := by
 refine MetFree.of_bodySF (plainFor_of_name pnc_java_lang_StringBuilder) hisR ?_
 intro p e s m args below meth c s₁ Bd hml0 hP hK
 obtain ⟨rfl, hZ, hh⟩ := hP
 have hx := Bd.exec
 have hby := Bd.bytes
 have hml : c.maxLocals = 1 := hml0
 have hown : s.vm.findClass "java/lang/StringBuilder" = some m.cls := findClass_of_methodNamed Bd.named
 have hnm := (name_of_methodNamed Bd.named Bd.method).1
 have X0 : Stand p l e ({ frames := 5, cells := 2, slots := 24, locals := 79 } : Room) s m #[(.ref r0)] below meth c s₁ [] 0 0 := Stand.of_body Bd
 have e0 : s₁.heap = h0 := by rw [← hh, Bd.state]; rfl
 have N0 := Fr.nil n0
 have kp0 : Keep h0 h0 [] := Keep.refl _ _
 have G0 : ∀ t, Steps p.tables e below (s₁.setTop (mkF m 0 #[rv r0] [])) t → Steps p.tables e below (s₁.setTop (entryFrame m #[(.ref r0)] 1)) t := fun t k => castTop (ef_rmTS20 m r0) k
 obtain ⟨T1, h1, X1, e1, E1, A1, D1, -, st1⟩ := newO X0 hx hZ hown (hq hw 237 rfl) (hq hw 7 rfl) (hq hw 6 rfl) e0 (g := (mkF m 0 #[rv r0] [])) rfl (hb hby d43_0) (by decide) (by decide)
 obtain ⟨b1, g1⟩ : ∃ z, z = h0.size := ⟨_, rfl⟩
 rw [← g1] at A1 D1 st1
 have g_b1 : n0 ≤ b1 := Nat.le_trans Z0 (Nat.le_of_eq g1.symm)
 have sz_b1 : h0.size ≤ b1 := Nat.le_trans kp0.1 (Nat.le_of_eq g1.symm)
 have ne_r0_b1 : r0 ≠ b1 := Nat.ne_of_lt (Nat.lt_of_lt_of_le Ey.lt (Nat.le_of_eq g1.symm))
 have ne_tb_b1 : tb ≠ b1 := Nat.ne_of_lt (Nat.lt_of_lt_of_le Vd.lt (Nat.le_of_eq g1.symm))
 have fa2 := Ey.ext E1
 have fa3 := Fny.ext E1
 have fa4 := Fcy.ext E1
 have fa5 := Fvy.ext E1
 have fa6 := Vd.ext E1
 have fa7 := O0.ext E1
 have z8 : n0 ≤ h1.size := Nat.le_trans Z0 E1.1
 have kp9 : Keep h0 h1 [] := kp0.ext E1
 have fa10 : Fld Z h1 b1 "java/lang/String" "value" "[B" .null := D1 (Or.inr (hq hw 9 rfl)) (ty := (.array .byte)) (by decide)
 have fa11 : Fld Z h1 b1 "java/lang/String" "coder" "B" (.int (0 : Int32)) := D1 (Or.inr (hq hw 10 rfl)) (ty := .byte) (by decide)
 obtain ⟨_, _, ⟨T12, L12, k12, n12⟩, -, X12, ⟨Lc12, hQ12, l12, y12, z12⟩, st12⟩ := X1.specialBack hx (y := (⟨"java/lang/String", "<init>", "(Ljava/lang/StringBuilder;)V"⟩ : MethodName)) rfl hown (mvT hZ (hq hw 238 rfl)) (mvT hZ (hq hw 239 rfl)) (mvT hZ (hq hw 240 rfl)) (by decide) (backOf (W := 1) (rmSN44_20 l Z a0 hw [] b1 r0 tb kd vd cst fv h1 n0 z8 A1 fa10 fa11 fa2 fa3 fa4 fa5 fa6 fa7 g_b1 (Ne.symm ne_r0_b1) (Ne.symm ne_tb_b1) SS) hZ (hq hw 240 rfl) (hq hw 6 rfl) (by decide) (by decide)) (g := (mkF m 5 #[rv r0] [(.ref r0), (.ref b1), (.ref b1)])) rfl (by rw [hml]; rfl) (Steps.refl _) (a := b1) (argsL := [(.ref r0)]) (rest := [(.ref b1)]) (lenOf pd_26 rfl) rfl (by show 2 * 0 + _ ≤ _; exact Nat.le_of_eq rfl) (hb hby d43_5) (fun _ _ => ⟨rfl, e1, (by decide : 1 + 1 ≤ _), (by decide : 4 + 20 ≤ _)⟩)
 dsimp only [Pt.U, Pt.locs, Pt.cells, Pt.slots] at X12 l12 y12 z12 st12 hQ12
 subst l12 y12 z12
 obtain ⟨rfl, N12q, K12, Fc12, tn12, kb12, Fv12, V12, zt12⟩ := hQ12
 have N12 := Fr.app N0 N12q
 have ztk12 : h0.size ≤ tn12 := Nat.le_trans kp9.1 zt12
 have fa13 := fa2.keep K12
 have fa14 := fa3.keep K12 (ninS ne_r0_b1 nin0)
 have fa15 := fa4.keep K12 (ninS ne_r0_b1 nin0)
 have fa16 := fa5.keep K12 (ninS ne_r0_b1 nin0)
 have fa17 := fa6.keep K12 (ninS ne_tb_b1 nin0)
 have fa18 := fa7.keep K12 (allS g_b1 all0)
 have fa19 := A1.keep K12
 have z20 : n0 ≤ T12.heap.size := Nat.le_trans z8 K12.1
 have kp21 : Keep h0 T12.heap [] := kp9.trans K12 (allS (Or.inr sz_b1) all0)
 obtain ⟨fs, hr, hrun, hended, hW, hsame⟩ := X12.leave (v := some (.ref b1)) (fun h => by rw [Bd.returns] at h; cases h)
 refine ⟨_, _, G0 _ ?_, hrun, hended, _, _, rfl, ?_, ⟨_, rfl⟩, hW, hsame.mono (by decide) (by decide)⟩
 ·skip
  refine st1 _ ?_
  refine XS.dup X1.here hx rfl (hb hby d43_3) rfl rfl ?_
  refine XS.aloadN X1.here hx rfl (hb hby d43_4) rfl rfl ?_
  refine st12.trans ?_
  exact retOut X12 hx Bd.returns rfl (Or.inr (Or.inr (Or.inr (Or.inr ⟨rfl, rfl, rfl⟩)))) (hb hby d43_8) hr
 ·show QTS20 Z r0 tb kd vd cst fv h0 n0 _ T12.heap _
  exact ⟨b1, tn12, kb12, rfl, N12, kp21, fa19, Fc12, Fv12, V12, sz_b1, ztk12⟩
theorem own_hvA (q : Nat) : (own_cp (own_cp own_z34 own_z16 (0 : Int32) (16 : Int32)) (own_ds 18 q) (0 : Int32) (18 : Int32)).length = 34 := rfl
theorem own_hvB (q : Nat) : (own_cp (own_cp own_z34 own_z16 (0 : Int32) (16 : Int32)) (own_ds 19 q) (0 : Int32) (19 : Int32)).length = 34 := rfl
theorem d7_0 : decode jdk_35_method_3_code 0 = .ok (.lload_n 0, 1) := by decide +kernel
theorem d7_1 : decode jdk_35_method_3_code 1 = .ok (.lconst 0, 1) := by decide +kernel
theorem d7_2 : decode jdk_35_method_3_code 2 = .ok (.lcmp, 1) := by decide +kernel
theorem d7_3 : decode jdk_35_method_3_code 3 = .ok (.ifCond .lt 9, 3) := by decide +kernel
theorem d7_12 : decode jdk_35_method_3_code 12 = .ok (.iload_n 2, 1) := by decide +kernel
theorem d7_13 : decode jdk_35_method_3_code 13 = .ok (.lookupswitch 138 #[(2, 59), (4, 66), (8, 74), (10, 81), (16, 123), (32, 130)], 59) := by decide +kernel
theorem d7_94 : decode jdk_35_method_3_code 94 = .ok (.lload_n 0, 1) := by decide +kernel
theorem d7_95 : decode jdk_35_method_3_code 95 = .ok (.iconst 1, 1) := by decide +kernel
theorem d7_96 : decode jdk_35_method_3_code 96 = .ok (.lushr, 1) := by decide +kernel
theorem d7_97 : decode jdk_35_method_3_code 97 = .ok (.ldc2_w 51, 3) := by decide +kernel
theorem d7_100 : decode jdk_35_method_3_code 100 = .ok (.ldiv, 1) := by decide +kernel
theorem d7_101 : decode jdk_35_method_3_code 101 = .ok (.lstore_n 3, 1) := by decide +kernel
theorem d7_102 : decode jdk_35_method_3_code 102 = .ok (.lload_n 0, 1) := by decide +kernel
theorem d7_103 : decode jdk_35_method_3_code 103 = .ok (.lload_n 3, 1) := by decide +kernel
theorem d7_104 : decode jdk_35_method_3_code 104 = .ok (.ldc2_w 53, 3) := by decide +kernel
theorem d7_107 : decode jdk_35_method_3_code 107 = .ok (.lmul, 1) := by decide +kernel
theorem d7_108 : decode jdk_35_method_3_code 108 = .ok (.lsub, 1) := by decide +kernel
theorem d7_109 : decode jdk_35_method_3_code 109 = .ok (.lstore 5, 2) := by decide +kernel
theorem d7_111 : decode jdk_35_method_3_code 111 = .ok (.new 55, 3) := by decide +kernel
theorem d7_114 : decode jdk_35_method_3_code 114 = .ok (.dup, 1) := by decide +kernel
theorem d7_115 : decode jdk_35_method_3_code 115 = .ok (.invokespecial 57, 3) := by decide +kernel
theorem pd_27 : parseMethodDescriptor "()V" = some ⟨[], none⟩ := by decide +kernel
theorem d7_118 : decode jdk_35_method_3_code 118 = .ok (.lload_n 3, 1) := by decide +kernel
theorem d7_119 : decode jdk_35_method_3_code 119 = .ok (.invokestatic 9, 3) := by decide +kernel
theorem d7_122 : decode jdk_35_method_3_code 122 = .ok (.invokevirtual 61, 3) := by decide +kernel
theorem pd_28 : parseMethodDescriptor "(Ljava/lang/String;)Ljava/lang/StringBuilder;" = some ⟨[(.object "java/lang/String")], some (.object "java/lang/StringBuilder")⟩ := by decide +kernel
theorem d7_125 : decode jdk_35_method_3_code 125 = .ok (.lload 5, 2) := by decide +kernel
theorem d7_127 : decode jdk_35_method_3_code 127 = .ok (.invokevirtual 65, 3) := by decide +kernel
theorem pd_29 : parseMethodDescriptor "(J)Ljava/lang/StringBuilder;" = some ⟨[.long], some (.object "java/lang/StringBuilder")⟩ := by decide +kernel
theorem d7_130 : decode jdk_35_method_3_code 130 = .ok (.invokevirtual 68, 3) := by decide +kernel
theorem pd_30 : parseMethodDescriptor "()Ljava/lang/String;" = some ⟨[], some (.object "java/lang/String")⟩ := by decide +kernel
theorem d7_133 : decode jdk_35_method_3_code 133 = .ok (.goto 26, 3) := by decide +kernel
theorem d7_159 : decode jdk_35_method_3_code 159 = .ok (.areturn, 1) := by decide +kernel
theorem d7_6 : decode jdk_35_method_3_code 6 = .ok (.lload_n 0, 1) := by decide +kernel
theorem d7_7 : decode jdk_35_method_3_code 7 = .ok (.iload_n 2, 1) := by decide +kernel
theorem d7_8 : decode jdk_35_method_3_code 8 = .ok (.invokestatic 40, 3) := by decide +kernel
theorem pd_31 : parseMethodDescriptor "(JI)Ljava/lang/String;" = some ⟨[.long, .int], some (.object "java/lang/String")⟩ := by decide +kernel
theorem d7_11 : decode jdk_35_method_3_code 11 = .ok (.areturn, 1) := by decide +kernel
def Q7 (Z : State) (q0 : Int64) (cst : Int32) (fv : Value) (h0 : Heap) (n0 : Nat) (v : Option Value) (h : Heap) (L : List Loc) : Prop := ∃ (s t : Addr) (k : ClassId) (len : Nat), v = some (.ref s) ∧ Fr n0 L ∧ Keep h0 h [] ∧ Exa Z h s "java/lang/String" ∧ Fld Z h s "java/lang/String" "coder" "B" (.int (0 : Int32)) ∧ Fld Z h s "java/lang/String" "value" "[B" (.ref t) ∧ Arv Z h t k .byte (Int32.ofNat len) (own_ds len (own_u q0)) (.int (0 : Int32)) ∧ h0.size ≤ s ∧ h0.size ≤ t ∧ own_ln len (own_u q0)
theorem ef_rm7 (m : MethodId) (x0 : Int64) (x1 : Int32) : entryFrame m #[(.long x0), (.int x1)] 7 = mkF m 0 #[.val (.long x0), .second, .val (.int x1), .unset, .unset, .unset, .unset] [] := by first | (simp [entryFrame, mkF, argsToLocals, Value.category]; done) | rfl
set_option maxRecDepth 65536 in
set_option maxHeartbeats 40000000 in
theorem rm7 (l : Launch) (Z : State) (a0 : Array Value) (hw : ∀ d ∈ tables_1, d.before a0 Z = true) (ws : List Jvm.Cond) (q0 : Int64) (cst : Int32) (fv : Value) (h0 : Heap) (n0 : Nat) (Z0 : n0 ≤ h0.size) (O0 : Old Z n0 h0) (TB : own_TB Z) (SS : Sts Z cst fv) :
  MetFree l (⟨"java/lang/Long", "toUnsignedString", "(JI)Ljava/lang/String;"⟩ : MethodName) (head1 (Jvm.Cond.code (⟨"java/lang/Long", "toUnsignedString", "(JI)Ljava/lang/String;"⟩ : MethodName) jdk_35_method_3_code 7 (some (.object "java/lang/String")) :: ws) ({ frames := 6, cells := 7, slots := 102, locals := 134 } : Room)) (fun a U => a = #[(.long q0), (.int (10 : Int32))] ∧ Z.Warmed39 U.vm ∧ U.heap = h0) (fun _ _ _ _ _ => True) (fun _ U o U' => ∃ v L, o = .returned v ∧ Q7 Z q0 cst fv h0 n0 v U'.heap L ∧ FrameEnd U o U' L ({ frames := 6, cells := 7, slots := 102, locals := 134 } : Room).cells ({ frames := 6, cells := 7, slots := 102, locals := 134 } : Room).slots) := by
 refine MetFree.of_bodySF (plainFor_of_name pnc_java_lang_Long) hisR ?_
 intro p e s m args below meth c s₁ Bd hml0 hP hK
 obtain ⟨rfl, hZ, hh⟩ := hP
 have hx := Bd.exec
 have hby := Bd.bytes
 have hml : c.maxLocals = 7 := hml0
 have hown : s.vm.findClass "java/lang/Long" = some m.cls := findClass_of_methodNamed Bd.named
 have hnm := (name_of_methodNamed Bd.named Bd.method).1
 have X0 : Stand p l e ({ frames := 6, cells := 7, slots := 102, locals := 134 } : Room) s m #[(.long q0), (.int (10 : Int32))] below meth c s₁ [] 0 0 := Stand.of_body Bd
 have e0 : s₁.heap = h0 := by rw [← hh, Bd.state]; rfl
 have N0 := Fr.nil n0
 have kp0 : Keep h0 h0 [] := Keep.refl _ _
 have G0 : ∀ t, Steps p.tables e below (s₁.setTop (mkF m 0 #[.val (.long q0), .second, iv 10, .unset, .unset, .unset, .unset] [])) t → Steps p.tables e below (s₁.setTop (entryFrame m #[(.long q0), (.int (10 : Int32))] 7)) t := fun t k => castTop (ef_rm7 m q0 (10 : Int32)) k
 have G1 : ∀ t, Steps p.tables e below (s₁.setTop (mkF m 3 #[.val (.long q0), .second, iv 10, .unset, .unset, .unset, .unset] [(.int (lcmpW q0 (0 : Int64)))])) t → Steps p.tables e below (s₁.setTop (entryFrame m #[(.long q0), (.int (10 : Int32))] 7)) t := by
  intro t kt
  refine G0 _ ?_
  refine XS.lloadN X0.here hx rfl (hb hby d7_0) rfl ?_
  refine XS.lconst X0.here hx rfl (hb hby d7_1) ?_
  refine XS.lcmp X0.here hx rfl (hb hby d7_2) rfl ?_
  exact kt
 by_cases hc3_2 : q0 < (0 : Int64)
 ·skip
  have G3 : ∀ t, Steps p.tables e below (s₁.setTop (mkF m 102 #[.val (.long q0), .second, iv 10, .val (.long (((q0.toUInt64 >>> ((1 : Int32) &&& 0x3f).toInt64.toUInt64).toInt64) / (5 : Int64))), .second, .unset, .unset] [])) t → Steps p.tables e below (s₁.setTop (entryFrame m #[(.long q0), (.int (10 : Int32))] 7)) t := by
   intro t kt
   refine G1 _ ?_
   refine XS.ifYes X0.here hx rfl (pc0 := 3) (pc' := 12) rfl (hb hby d7_3) rfl ((if0 _ _).trans (tlt ((lw_lt _ _).mpr hc3_2)).1) (by decide) (by decide) ?_
   refine XS.iloadN X0.here hx rfl (hb hby d7_12) rfl ?_
   refine own_lsw X0.here hx rfl (pc0 := 13) (pc' := 94) rfl (hb hby d7_13) rfl (o := 81) (by intro a b a' b' hm; simp at hm; omega) (by decide) (by decide) (by decide) ?_
   refine XS.lloadN X0.here hx rfl (hb hby d7_94) rfl ?_
   refine XS.iconst X0.here hx rfl (hb hby d7_95) ?_
   refine XS.lushr X0.here hx rfl (hb hby d7_96) rfl ?_
   refine X0.ldc2Long hx hown (mvT hZ (hq hw 132 rfl)) (g := (mkF m 97 #[.val (.long q0), .second, iv 10, .unset, .unset, .unset, .unset] [(.long ((q0.toUInt64 >>> ((1 : Int32) &&& 0x3f).toInt64.toUInt64).toInt64))])) rfl (hb hby d7_97) _ ?_
   refine XS.ldiv X0.here hx rfl (hb hby d7_100) rfl (by decide) ?_
   refine XS.lstoreN X0.here hx rfl (hb hby d7_101) rfl (l' := #[.val (.long q0), .second, iv 10, .val (.long (((q0.toUInt64 >>> ((1 : Int32) &&& 0x3f).toInt64.toUInt64).toInt64) / (5 : Int64))), .second, .unset, .unset]) rfl ?_
   exact kt
  obtain ⟨qd, hqd⟩ : ∃ z : Int64, z = (((q0.toUInt64 >>> ((1 : Int32) &&& 0x3f).toInt64.toUInt64).toInt64) / (5 : Int64)) := ⟨_, rfl⟩
  have G4 : ∀ t, Steps p.tables e below (s₁.setTop (mkF m 102 #[.val (.long q0), .second, iv 10, .val (.long qd), .second, .unset, .unset] [])) t → Steps p.tables e below (s₁.setTop (entryFrame m #[(.long q0), (.int (10 : Int32))] 7)) t := by
   intro t kt
   rw [hqd] at kt
   exact G3 t kt
  have G5 : ∀ t, Steps p.tables e below (s₁.setTop (mkF m 111 #[.val (.long q0), .second, iv 10, .val (.long qd), .second, .val (.long (q0 - (qd * (10 : Int64)))), .second] [])) t → Steps p.tables e below (s₁.setTop (entryFrame m #[(.long q0), (.int (10 : Int32))] 7)) t := by
   intro t kt
   refine G4 _ ?_
   refine XS.lloadN X0.here hx rfl (hb hby d7_102) rfl ?_
   refine XS.lloadN X0.here hx rfl (hb hby d7_103) rfl ?_
   refine X0.ldc2Long hx hown (mvT hZ (hq hw 133 rfl)) (g := (mkF m 104 #[.val (.long q0), .second, iv 10, .val (.long qd), .second, .unset, .unset] [(.long qd), (.long q0)])) rfl (hb hby d7_104) _ ?_
   refine XS.lmul X0.here hx rfl (hb hby d7_107) rfl ?_
   refine XS.lsub X0.here hx rfl (hb hby d7_108) rfl ?_
   refine XS.lstore X0.here hx rfl (hb hby d7_109) rfl (l' := #[.val (.long q0), .second, iv 10, .val (.long qd), .second, .val (.long (q0 - (qd * (10 : Int64)))), .second]) rfl ?_
   exact kt
  obtain ⟨rd, hrd⟩ : ∃ z : Int64, z = (q0 - (qd * (10 : Int64))) := ⟨_, rfl⟩
  have G6 : ∀ t, Steps p.tables e below (s₁.setTop (mkF m 111 #[.val (.long q0), .second, iv 10, .val (.long qd), .second, .val (.long rd), .second] [])) t → Steps p.tables e below (s₁.setTop (entryFrame m #[(.long q0), (.int (10 : Int32))] 7)) t := by
   intro t kt
   rw [hrd] at kt
   exact G5 t kt
  obtain ⟨HQ1, HQ2, HQ3, HQ4, HQ5, HQ6⟩ := own_quo q0 qd rd hc3_2 hqd hrd
  obtain ⟨T7, h7, X7, e7, E7, A7, D7, -, st7⟩ := newO X0 hx hZ hown (hq hw 134 rfl) (hq hw 135 rfl) (hq hw 136 rfl) e0 (g := (mkF m 111 #[.val (.long q0), .second, iv 10, .val (.long qd), .second, .val (.long rd), .second] [])) rfl (hb hby d7_111) (by decide) (by decide)
  obtain ⟨b7, g7⟩ : ∃ z, z = h0.size := ⟨_, rfl⟩
  rw [← g7] at A7 D7 st7
  have g_b7 : n0 ≤ b7 := Nat.le_trans Z0 (Nat.le_of_eq g7.symm)
  have sz_b7 : h0.size ≤ b7 := Nat.le_trans kp0.1 (Nat.le_of_eq g7.symm)
  have fa8 := O0.ext E7
  have z9 : n0 ≤ h7.size := Nat.le_trans Z0 E7.1
  have kp10 : Keep h0 h7 [] := kp0.ext E7
  have fa11 : Fld Z h7 b7 "java/lang/AbstractStringBuilder" "value" "[B" .null := D7 (Or.inl (hq hw 150 rfl)) (ty := (.array .byte)) (by decide)
  have fa12 : Fld Z h7 b7 "java/lang/AbstractStringBuilder" "coder" "B" (.int (0 : Int32)) := D7 (Or.inl (hq hw 152 rfl)) (ty := .byte) (by decide)
  have fa13 : Fld Z h7 b7 "java/lang/AbstractStringBuilder" "count" "I" (.int (0 : Int32)) := D7 (Or.inl (hq hw 167 rfl)) (ty := .int) (by decide)
  obtain ⟨_, _, ⟨T14, L14, k14, n14⟩, -, X14, ⟨Lc14, hQ14, l14, y14, z14⟩, st14⟩ := X7.specialBack hx (y := (⟨"java/lang/StringBuilder", "<init>", "()V"⟩ : MethodName)) rfl hown (mvT hZ (hq hw 137 rfl)) (mvT hZ (hq hw 138 rfl)) (mvT hZ (hq hw 140 rfl)) (by decide) (backOf (W := 1) (rm27 l Z a0 hw [] b7  cst fv h7 n0 z9 A7 fa13 fa12 fa11 fa8 g_b7 SS) hZ (hq hw 140 rfl) (hq hw 136 rfl) (by decide) (by decide)) (g := (mkF m 115 #[.val (.long q0), .second, iv 10, .val (.long qd), .second, .val (.long rd), .second] [(.ref b7), (.ref b7)])) rfl (by rw [hml]; rfl) (Steps.refl _) (a := b7) (argsL := []) (rest := [(.ref b7)]) (lenOf pd_27 rfl) rfl (by show 2 * 0 + _ ≤ _; exact Nat.le_of_eq rfl) (hb hby d7_115) (fun _ _ => ⟨rfl, e7, (by decide : 1 + 1 ≤ _), (by decide : 4 + 16 ≤ _)⟩)
  dsimp only [Pt.U, Pt.locs, Pt.cells, Pt.slots] at X14 l14 y14 z14 st14 hQ14
  subst l14 y14 z14
  obtain ⟨rfl, N14q, K14, Fn14, Fc14, tb14, kb14, Fv14, sz14, g_tb14, V14⟩ := hQ14
  have N14 := Fr.app N0 N14q
  have szk14 : h0.size ≤ tb14 := Nat.le_trans kp10.1 sz14
  have ne_b7_tb14 : b7 ≠ tb14 := Nat.ne_of_lt (Nat.lt_of_lt_of_le A7.lt sz14)
  have fa15 := fa8.keep K14 (allS g_b7 all0)
  have fa16 := A7.keep K14
  have z17 : n0 ≤ T14.heap.size := Nat.le_trans z9 K14.1
  have kp18 : Keep h0 T14.heap [] := kp10.trans K14 (allS (Or.inr sz_b7) all0)
  obtain ⟨_, _, ⟨T19, L19, k19, n19⟩, -, X19, ⟨Lc19, hQ19, l19, y19, z19⟩, st19⟩ := Jvm.LawKit.callS X14 hx (y := (⟨"java/lang/Long", "toString", "(J)Ljava/lang/String;"⟩ : MethodName)) hown (mvT hZ (hq hw 44 rfl)) (mvT hZ (hq hw 45 rfl)) (mvT hZ (hq hw 36 rfl)) (mvT hZ (hq hw 46 rfl)) (by decide) (backOf (W := 1) (rm9 l Z a0 hw [] qd  cst fv T14.heap n0 z17  fa15 HQ1 TB SS) hZ (hq hw 46 rfl) (hq hw 36 rfl) (by decide) (by decide)) (g := (mkF m 119 #[.val (.long q0), .second, iv 10, .val (.long qd), .second, .val (.long rd), .second] [(.long qd), (.ref b7)])) rfl (by rw [hml]; rfl) (argsL := [(.long qd)]) (rest := [(.ref b7)]) (lenOf pd_11 rfl) rfl (by show 2 * 0 + _ ≤ _; exact Nat.le_of_eq rfl) (hb hby d7_119) (fun _ _ => ⟨rfl, rfl, (by decide : 2 + 2 ≤ _), (by decide : 20 + 24 ≤ _)⟩)
  dsimp only [Pt.U, Pt.locs, Pt.cells, Pt.slots] at X19 l19 y19 z19 st19 hQ19
  subst l19 y19 z19
  obtain ⟨s19, t19, kb19, rfl, N19q, K19, A19, Fc19, Fv19, V19, zs19, zt19⟩ := hQ19
  have N19 := Fr.app N14 N19q
  have zsk19 : h0.size ≤ s19 := Nat.le_trans kp18.1 zs19
  have ztk19 : h0.size ≤ t19 := Nat.le_trans kp18.1 zt19
  have ne_b7_s19 : b7 ≠ s19 := Nat.ne_of_lt (Nat.lt_of_lt_of_le fa16.lt zs19)
  have ne_tb14_s19 : tb14 ≠ s19 := Nat.ne_of_lt (Nat.lt_of_lt_of_le V14.lt zs19)
  have ne_b7_t19 : b7 ≠ t19 := Nat.ne_of_lt (Nat.lt_of_lt_of_le fa16.lt zt19)
  have ne_tb14_t19 : tb14 ≠ t19 := Nat.ne_of_lt (Nat.lt_of_lt_of_le V14.lt zt19)
  have fa20 := fa15.keep K19 all0
  have fa21 := fa16.keep K19
  have fa22 := Fn14.keep K19 nin0
  have fa23 := Fc14.keep K19 nin0
  have fa24 := Fv14.keep K19 nin0
  have fa25 := V14.keep K19 nin0
  have z26 : n0 ≤ T19.heap.size := Nat.le_trans z17 K19.1
  have kp27 : Keep h0 T19.heap [] := kp18.trans K19 all0
  have G28 : ∀ t, Steps p.tables e below (T19.setTop (mkF m 122 #[.val (.long q0), .second, iv 10, .val (.long qd), .second, .val (.long rd), .second] [(.ref s19), (.ref b7)])) t → Steps p.tables e below (s₁.setTop (entryFrame m #[(.long q0), (.int (10 : Int32))] 7)) t := by
   intro t kt
   refine G6 _ ?_
   refine st7 _ ?_
   refine XS.dup X7.here hx rfl (hb hby d7_114) rfl rfl ?_
   show Steps p.tables e below (T7.setTop (mkF m 115 #[.val (.long q0), .second, iv 10, .val (.long qd), .second, .val (.long rd), .second] [(.ref b7), (.ref b7)])) _
   refine st14.trans ?_
   refine XS.lloadN X14.here hx rfl (hb hby d7_118) rfl ?_
   refine st19 _ ?_
   exact kt
  rcases own_d1819 HQ2 HQ3 with hD | hD
  ·skip
   have fa29 : Arv Z T19.heap t19 kb19 .byte (18 : Int32) (own_ds 18 qd.toInt.toNat) (.int (0 : Int32)) := by have q := V19; rw [hD] at q; exact q
   obtain ⟨cq30, kq30, q30a, q30b, q30c⟩ := isOf hZ rfl fa21
   obtain ⟨_, _, ⟨T30, L30, k30, n30⟩, -, X30, ⟨Lc30, hQ30, l30, y30, z30⟩, st30⟩ := X19.virtualBack hx (y := (⟨"java/lang/StringBuilder", "append", "(Ljava/lang/String;)Ljava/lang/StringBuilder;"⟩ : MethodName)) (z := (⟨"java/lang/StringBuilder", "append", "(Ljava/lang/String;)Ljava/lang/StringBuilder;"⟩ : MethodName)) hown (mvT hZ (hq hw 155 rfl)) (mvT hZ (hq hw 156 rfl)) (notFace_of_selects (args := #[]) (mvT hZ (hq hw 158 rfl))) (mvT hZ (hq hw 158 rfl)) (mvT hZ (hq hw 157 rfl)) (by decide) (backOf (W := 0) (rmAB18 l Z a0 hw [] b7 s19 tb14 kb14 t19 kb19 (own_ds 18 qd.toInt.toNat) cst fv T19.heap n0 z26 fa21 fa22 fa23 fa24 fa25 A19 Fc19 Fv19 fa29 fa20 g_b7 ne_b7_tb14 ne_b7_s19 ne_b7_t19 SS) hZ (hq hw 159 rfl) (hq hw 136 rfl) (by decide) (by decide)) q30a q30c (g := (mkF m 122 #[.val (.long q0), .second, iv 10, .val (.long qd), .second, .val (.long rd), .second] [(.ref s19), (.ref b7)])) rfl (by rw [hml]; rfl) (Steps.refl _) (argsL := [(.ref s19)]) (rest := []) (lenOf pd_28 rfl) rfl (by show 2 * 0 + _ ≤ _; exact Nat.le_of_eq rfl) (hb hby d7_122) (fun _ _ => ⟨rfl, rfl, (by decide : 4 + 1 ≤ _), (by decide : 44 + 34 ≤ _)⟩)
   dsimp only [Pt.U, Pt.locs, Pt.cells, Pt.slots] at X30 l30 y30 z30 st30 hQ30
   subst l30 y30 z30
   obtain ⟨rfl, N30q, K30, Fn30, Fc30, tb30, kb30, Fv30, sz30, g_tb30, V30⟩ := hQ30
   have N30 := Fr.app N19 N30q
   have szk30 : h0.size ≤ tb30 := Nat.le_trans kp27.1 sz30
   have ne_b7_tb30 : b7 ≠ tb30 := Nat.ne_of_lt (Nat.lt_of_lt_of_le fa21.lt sz30)
   have ne_tb14_tb30 : tb14 ≠ tb30 := Nat.ne_of_lt (Nat.lt_of_lt_of_le fa25.lt sz30)
   have ne_s19_tb30 : s19 ≠ tb30 := Nat.ne_of_lt (Nat.lt_of_lt_of_le A19.lt sz30)
   have ne_t19_tb30 : t19 ≠ tb30 := Nat.ne_of_lt (Nat.lt_of_lt_of_le fa29.lt sz30)
   have fa31 := fa20.keep K30 (allS g_b7 all0)
   have fa32 := fa21.keep K30
   have fa33 := fa25.keep K30 (ninS (Ne.symm ne_b7_tb14) nin0)
   have fa34 := A19.keep K30
   have fa35 := Fc19.keep K30 (ninS (Ne.symm ne_b7_s19) nin0)
   have fa36 := Fv19.keep K30 (ninS (Ne.symm ne_b7_s19) nin0)
   have fa37 := fa29.keep K30 (ninS (Ne.symm ne_b7_t19) nin0)
   have z38 : n0 ≤ T30.heap.size := Nat.le_trans z26 K30.1
   have kp39 : Keep h0 T30.heap [] := kp27.trans K30 (allS (Or.inr sz_b7) all0)
   obtain ⟨cq40, kq40, q40a, q40b, q40c⟩ := isOf hZ rfl fa32
   obtain ⟨_, _, ⟨T40, L40, k40, n40⟩, -, X40, ⟨Lc40, hQ40, l40, y40, z40⟩, st40⟩ := X30.virtualBack hx (y := (⟨"java/lang/StringBuilder", "append", "(J)Ljava/lang/StringBuilder;"⟩ : MethodName)) (z := (⟨"java/lang/StringBuilder", "append", "(J)Ljava/lang/StringBuilder;"⟩ : MethodName)) hown (mvT hZ (hq hw 216 rfl)) (mvT hZ (hq hw 217 rfl)) (notFace_of_selects (args := #[]) (mvT hZ (hq hw 219 rfl))) (mvT hZ (hq hw 219 rfl)) (mvT hZ (hq hw 218 rfl)) (by decide) (backOf (W := 0) (rmAJ40_18 l Z a0 hw [] b7 rd tb30 kb30 (own_cp (own_cp own_z34 own_z16 (0 : Int32) (16 : Int32)) (own_ds 18 qd.toInt.toNat) (0 : Int32) (18 : Int32)) cst fv T30.heap n0 z38 fa32 Fn30 Fc30 Fv30 V30 fa31 g_b7 g_tb30 ne_b7_tb30 (own_hvA _) HQ4 HQ5 TB SS) hZ (hq hw 220 rfl) (hq hw 136 rfl) (by decide) (by decide)) q40a q40c (g := (mkF m 127 #[.val (.long q0), .second, iv 10, .val (.long qd), .second, .val (.long rd), .second] [(.long rd), (.ref b7)])) rfl (by rw [hml]; rfl) (Steps.refl _) (argsL := [(.long rd)]) (rest := []) (lenOf pd_29 rfl) rfl (by show 2 * 0 + _ ≤ _; exact Nat.le_of_eq rfl) (hb hby d7_127) (fun _ _ => ⟨rfl, rfl, (by decide : 5 + 0 ≤ _), (by decide : 78 + 0 ≤ _)⟩)
   dsimp only [Pt.U, Pt.locs, Pt.cells, Pt.slots] at X40 l40 y40 z40 st40 hQ40
   subst l40 y40 z40
   obtain ⟨rfl, N40q, K40, Fn40, Fc40, Fv40, V40⟩ := hQ40
   have N40 := Fr.app N30 N40q
   have fa41 := fa31.keep K40 (allS g_b7 (allS g_tb30 all0))
   have fa42 := fa32.keep K40
   have fa43 := fa33.keep K40 (ninS (Ne.symm ne_b7_tb14) (ninS ne_tb14_tb30 nin0))
   have fa44 := fa34.keep K40
   have fa45 := fa35.keep K40 (ninS (Ne.symm ne_b7_s19) (ninS ne_s19_tb30 nin0))
   have fa46 := fa36.keep K40 (ninS (Ne.symm ne_b7_s19) (ninS ne_s19_tb30 nin0))
   have fa47 := fa37.keep K40 (ninS (Ne.symm ne_b7_t19) (ninS ne_t19_tb30 nin0))
   have z48 : n0 ≤ T40.heap.size := Nat.le_trans z38 K40.1
   have kp49 : Keep h0 T40.heap [] := kp39.trans K40 (allS (Or.inr sz_b7) (allS (Or.inr szk30) all0))
   obtain ⟨cq50, kq50, q50a, q50b, q50c⟩ := isOf hZ rfl fa42
   obtain ⟨_, _, ⟨T50, L50, k50, n50⟩, -, X50, ⟨Lc50, hQ50, l50, y50, z50⟩, st50⟩ := X40.virtualBack hx (y := (⟨"java/lang/StringBuilder", "toString", "()Ljava/lang/String;"⟩ : MethodName)) (z := (⟨"java/lang/StringBuilder", "toString", "()Ljava/lang/String;"⟩ : MethodName)) hown (mvT hZ (hq hw 232 rfl)) (mvT hZ (hq hw 233 rfl)) (notFace_of_selects (args := #[]) (mvT hZ (hq hw 235 rfl))) (mvT hZ (hq hw 235 rfl)) (mvT hZ (hq hw 234 rfl)) (by decide) (backOf (W := 0) (rmTS19 l Z a0 hw [] b7 tb30 kb30 (own_gcl (own_cp (own_cp own_z34 own_z16 (0 : Int32) (16 : Int32)) (own_ds 18 qd.toInt.toNat) (0 : Int32) (18 : Int32)) 19 rd.toInt.toNat) cst fv T40.heap n0 z48 fa42 Fn40 Fc40 Fv40 V40 fa41  SS) hZ (hq hw 236 rfl) (hq hw 136 rfl) (by decide) (by decide)) q50a q50c (g := (mkF m 130 #[.val (.long q0), .second, iv 10, .val (.long qd), .second, .val (.long rd), .second] [(.ref b7)])) rfl (by rw [hml]; rfl) (Steps.refl _) (argsL := []) (rest := []) (lenOf pd_30 rfl) rfl (by show 2 * 0 + _ ≤ _; exact Nat.le_of_eq rfl) (hb hby d7_130) (fun _ _ => ⟨rfl, rfl, (by decide : 5 + 2 ≤ _), (by decide : 78 + 23 ≤ _)⟩)
   dsimp only [Pt.U, Pt.locs, Pt.cells, Pt.slots] at X50 l50 y50 z50 st50 hQ50
   subst l50 y50 z50
   obtain ⟨s50, t50, kb50, rfl, N50q, K50, A50, Fc50, Fv50, V50, zs50, zt50⟩ := hQ50
   have N50 := Fr.app N40 N50q
   have zsk50 : h0.size ≤ s50 := Nat.le_trans kp49.1 zs50
   have ztk50 : h0.size ≤ t50 := Nat.le_trans kp49.1 zt50
   have ne_b7_s50 : b7 ≠ s50 := Nat.ne_of_lt (Nat.lt_of_lt_of_le fa42.lt zs50)
   have ne_tb14_s50 : tb14 ≠ s50 := Nat.ne_of_lt (Nat.lt_of_lt_of_le fa43.lt zs50)
   have ne_s19_s50 : s19 ≠ s50 := Nat.ne_of_lt (Nat.lt_of_lt_of_le fa44.lt zs50)
   have ne_t19_s50 : t19 ≠ s50 := Nat.ne_of_lt (Nat.lt_of_lt_of_le fa47.lt zs50)
   have ne_tb30_s50 : tb30 ≠ s50 := Nat.ne_of_lt (Nat.lt_of_lt_of_le V40.lt zs50)
   have ne_b7_t50 : b7 ≠ t50 := Nat.ne_of_lt (Nat.lt_of_lt_of_le fa42.lt zt50)
   have ne_tb14_t50 : tb14 ≠ t50 := Nat.ne_of_lt (Nat.lt_of_lt_of_le fa43.lt zt50)
   have ne_s19_t50 : s19 ≠ t50 := Nat.ne_of_lt (Nat.lt_of_lt_of_le fa44.lt zt50)
   have ne_t19_t50 : t19 ≠ t50 := Nat.ne_of_lt (Nat.lt_of_lt_of_le fa47.lt zt50)
   have ne_tb30_t50 : tb30 ≠ t50 := Nat.ne_of_lt (Nat.lt_of_lt_of_le V40.lt zt50)
   have fa51 := fa41.keep K50 all0
   have fa52 := fa42.keep K50
   have fa53 := fa43.keep K50 nin0
   have fa54 := fa44.keep K50
   have fa55 := fa45.keep K50 nin0
   have fa56 := fa46.keep K50 nin0
   have fa57 := fa47.keep K50 nin0
   have fa58 := Fn40.keep K50 nin0
   have fa59 := Fc40.keep K50 nin0
   have fa60 := Fv40.keep K50 nin0
   have fa61 := V40.keep K50 nin0
   have z62 : n0 ≤ T50.heap.size := Nat.le_trans z48 K50.1
   have kp63 : Keep h0 T50.heap [] := kp49.trans K50 all0
   obtain ⟨fs, hr, hrun, hended, hW, hsame⟩ := X50.leave (v := some (.ref s50)) (fun h => by rw [Bd.returns] at h; cases h)
   refine ⟨_, _, G28 _ ?_, hrun, hended, _, _, rfl, ?_, ⟨_, rfl⟩, hW, hsame.mono (by decide) (by decide)⟩
   ·skip
    refine st30.trans ?_
    refine XS.lload X30.here hx rfl (hb hby d7_125) rfl ?_
    refine st40.trans ?_
    refine st50.trans ?_
    refine XS.goto X50.here hx rfl (pc0 := 133) (pc' := 159) rfl (hb hby d7_133) (by decide) (by decide) ?_
    exact retOut X50 hx Bd.returns rfl (Or.inr (Or.inr (Or.inr (Or.inr ⟨rfl, rfl, rfl⟩)))) (hb hby d7_159) hr
   ·show Q7 Z q0 cst fv h0 n0 _ T50.heap _
    exact ⟨s50, t50, kb50, 19, rfl, N50, kp63, A50, Fc50, Fv50, by rw [HQ6, ← own_fin18 HQ5]; exact V50, zsk50, ztk50, by rw [HQ6]; exact own_ln1 (by have q := own_ln0 qd.toInt.toNat (by omega); rw [hD] at q; exact q) HQ5 (by omega) (by decide)⟩
  ·skip
   have fa64 : Arv Z T19.heap t19 kb19 .byte (19 : Int32) (own_ds 19 qd.toInt.toNat) (.int (0 : Int32)) := by have q := V19; rw [hD] at q; exact q
   obtain ⟨cq65, kq65, q65a, q65b, q65c⟩ := isOf hZ rfl fa21
   obtain ⟨_, _, ⟨T65, L65, k65, n65⟩, -, X65, ⟨Lc65, hQ65, l65, y65, z65⟩, st65⟩ := X19.virtualBack hx (y := (⟨"java/lang/StringBuilder", "append", "(Ljava/lang/String;)Ljava/lang/StringBuilder;"⟩ : MethodName)) (z := (⟨"java/lang/StringBuilder", "append", "(Ljava/lang/String;)Ljava/lang/StringBuilder;"⟩ : MethodName)) hown (mvT hZ (hq hw 155 rfl)) (mvT hZ (hq hw 156 rfl)) (notFace_of_selects (args := #[]) (mvT hZ (hq hw 158 rfl))) (mvT hZ (hq hw 158 rfl)) (mvT hZ (hq hw 157 rfl)) (by decide) (backOf (W := 0) (rmAB19 l Z a0 hw [] b7 s19 tb14 kb14 t19 kb19 (own_ds 19 qd.toInt.toNat) cst fv T19.heap n0 z26 fa21 fa22 fa23 fa24 fa25 A19 Fc19 Fv19 fa64 fa20 g_b7 ne_b7_tb14 ne_b7_s19 ne_b7_t19 SS) hZ (hq hw 159 rfl) (hq hw 136 rfl) (by decide) (by decide)) q65a q65c (g := (mkF m 122 #[.val (.long q0), .second, iv 10, .val (.long qd), .second, .val (.long rd), .second] [(.ref s19), (.ref b7)])) rfl (by rw [hml]; rfl) (Steps.refl _) (argsL := [(.ref s19)]) (rest := []) (lenOf pd_28 rfl) rfl (by show 2 * 0 + _ ≤ _; exact Nat.le_of_eq rfl) (hb hby d7_122) (fun _ _ => ⟨rfl, rfl, (by decide : 4 + 1 ≤ _), (by decide : 44 + 34 ≤ _)⟩)
   dsimp only [Pt.U, Pt.locs, Pt.cells, Pt.slots] at X65 l65 y65 z65 st65 hQ65
   subst l65 y65 z65
   obtain ⟨rfl, N65q, K65, Fn65, Fc65, tb65, kb65, Fv65, sz65, g_tb65, V65⟩ := hQ65
   have N65 := Fr.app N19 N65q
   have szk65 : h0.size ≤ tb65 := Nat.le_trans kp27.1 sz65
   have ne_b7_tb65 : b7 ≠ tb65 := Nat.ne_of_lt (Nat.lt_of_lt_of_le fa21.lt sz65)
   have ne_tb14_tb65 : tb14 ≠ tb65 := Nat.ne_of_lt (Nat.lt_of_lt_of_le fa25.lt sz65)
   have ne_s19_tb65 : s19 ≠ tb65 := Nat.ne_of_lt (Nat.lt_of_lt_of_le A19.lt sz65)
   have ne_t19_tb65 : t19 ≠ tb65 := Nat.ne_of_lt (Nat.lt_of_lt_of_le fa64.lt sz65)
   have fa66 := fa20.keep K65 (allS g_b7 all0)
   have fa67 := fa21.keep K65
   have fa68 := fa25.keep K65 (ninS (Ne.symm ne_b7_tb14) nin0)
   have fa69 := A19.keep K65
   have fa70 := Fc19.keep K65 (ninS (Ne.symm ne_b7_s19) nin0)
   have fa71 := Fv19.keep K65 (ninS (Ne.symm ne_b7_s19) nin0)
   have fa72 := fa64.keep K65 (ninS (Ne.symm ne_b7_t19) nin0)
   have z73 : n0 ≤ T65.heap.size := Nat.le_trans z26 K65.1
   have kp74 : Keep h0 T65.heap [] := kp27.trans K65 (allS (Or.inr sz_b7) all0)
   obtain ⟨cq75, kq75, q75a, q75b, q75c⟩ := isOf hZ rfl fa67
   obtain ⟨_, _, ⟨T75, L75, k75, n75⟩, -, X75, ⟨Lc75, hQ75, l75, y75, z75⟩, st75⟩ := X65.virtualBack hx (y := (⟨"java/lang/StringBuilder", "append", "(J)Ljava/lang/StringBuilder;"⟩ : MethodName)) (z := (⟨"java/lang/StringBuilder", "append", "(J)Ljava/lang/StringBuilder;"⟩ : MethodName)) hown (mvT hZ (hq hw 216 rfl)) (mvT hZ (hq hw 217 rfl)) (notFace_of_selects (args := #[]) (mvT hZ (hq hw 219 rfl))) (mvT hZ (hq hw 219 rfl)) (mvT hZ (hq hw 218 rfl)) (by decide) (backOf (W := 0) (rmAJ40_19 l Z a0 hw [] b7 rd tb65 kb65 (own_cp (own_cp own_z34 own_z16 (0 : Int32) (16 : Int32)) (own_ds 19 qd.toInt.toNat) (0 : Int32) (19 : Int32)) cst fv T65.heap n0 z73 fa67 Fn65 Fc65 Fv65 V65 fa66 g_b7 g_tb65 ne_b7_tb65 (own_hvB _) HQ4 HQ5 TB SS) hZ (hq hw 220 rfl) (hq hw 136 rfl) (by decide) (by decide)) q75a q75c (g := (mkF m 127 #[.val (.long q0), .second, iv 10, .val (.long qd), .second, .val (.long rd), .second] [(.long rd), (.ref b7)])) rfl (by rw [hml]; rfl) (Steps.refl _) (argsL := [(.long rd)]) (rest := []) (lenOf pd_29 rfl) rfl (by show 2 * 0 + _ ≤ _; exact Nat.le_of_eq rfl) (hb hby d7_127) (fun _ _ => ⟨rfl, rfl, (by decide : 5 + 0 ≤ _), (by decide : 78 + 0 ≤ _)⟩)
   dsimp only [Pt.U, Pt.locs, Pt.cells, Pt.slots] at X75 l75 y75 z75 st75 hQ75
   subst l75 y75 z75
   obtain ⟨rfl, N75q, K75, Fn75, Fc75, Fv75, V75⟩ := hQ75
   have N75 := Fr.app N65 N75q
   have fa76 := fa66.keep K75 (allS g_b7 (allS g_tb65 all0))
   have fa77 := fa67.keep K75
   have fa78 := fa68.keep K75 (ninS (Ne.symm ne_b7_tb14) (ninS ne_tb14_tb65 nin0))
   have fa79 := fa69.keep K75
   have fa80 := fa70.keep K75 (ninS (Ne.symm ne_b7_s19) (ninS ne_s19_tb65 nin0))
   have fa81 := fa71.keep K75 (ninS (Ne.symm ne_b7_s19) (ninS ne_s19_tb65 nin0))
   have fa82 := fa72.keep K75 (ninS (Ne.symm ne_b7_t19) (ninS ne_t19_tb65 nin0))
   have z83 : n0 ≤ T75.heap.size := Nat.le_trans z73 K75.1
   have kp84 : Keep h0 T75.heap [] := kp74.trans K75 (allS (Or.inr sz_b7) (allS (Or.inr szk65) all0))
   obtain ⟨cq85, kq85, q85a, q85b, q85c⟩ := isOf hZ rfl fa77
   obtain ⟨_, _, ⟨T85, L85, k85, n85⟩, -, X85, ⟨Lc85, hQ85, l85, y85, z85⟩, st85⟩ := X75.virtualBack hx (y := (⟨"java/lang/StringBuilder", "toString", "()Ljava/lang/String;"⟩ : MethodName)) (z := (⟨"java/lang/StringBuilder", "toString", "()Ljava/lang/String;"⟩ : MethodName)) hown (mvT hZ (hq hw 232 rfl)) (mvT hZ (hq hw 233 rfl)) (notFace_of_selects (args := #[]) (mvT hZ (hq hw 235 rfl))) (mvT hZ (hq hw 235 rfl)) (mvT hZ (hq hw 234 rfl)) (by decide) (backOf (W := 0) (rmTS20 l Z a0 hw [] b7 tb65 kb65 (own_gcl (own_cp (own_cp own_z34 own_z16 (0 : Int32) (16 : Int32)) (own_ds 19 qd.toInt.toNat) (0 : Int32) (19 : Int32)) 20 rd.toInt.toNat) cst fv T75.heap n0 z83 fa77 Fn75 Fc75 Fv75 V75 fa76  SS) hZ (hq hw 236 rfl) (hq hw 136 rfl) (by decide) (by decide)) q85a q85c (g := (mkF m 130 #[.val (.long q0), .second, iv 10, .val (.long qd), .second, .val (.long rd), .second] [(.ref b7)])) rfl (by rw [hml]; rfl) (Steps.refl _) (argsL := []) (rest := []) (lenOf pd_30 rfl) rfl (by show 2 * 0 + _ ≤ _; exact Nat.le_of_eq rfl) (hb hby d7_130) (fun _ _ => ⟨rfl, rfl, (by decide : 5 + 2 ≤ _), (by decide : 78 + 24 ≤ _)⟩)
   dsimp only [Pt.U, Pt.locs, Pt.cells, Pt.slots] at X85 l85 y85 z85 st85 hQ85
   subst l85 y85 z85
   obtain ⟨s85, t85, kb85, rfl, N85q, K85, A85, Fc85, Fv85, V85, zs85, zt85⟩ := hQ85
   have N85 := Fr.app N75 N85q
   have zsk85 : h0.size ≤ s85 := Nat.le_trans kp84.1 zs85
   have ztk85 : h0.size ≤ t85 := Nat.le_trans kp84.1 zt85
   have ne_b7_s85 : b7 ≠ s85 := Nat.ne_of_lt (Nat.lt_of_lt_of_le fa77.lt zs85)
   have ne_tb14_s85 : tb14 ≠ s85 := Nat.ne_of_lt (Nat.lt_of_lt_of_le fa78.lt zs85)
   have ne_s19_s85 : s19 ≠ s85 := Nat.ne_of_lt (Nat.lt_of_lt_of_le fa79.lt zs85)
   have ne_t19_s85 : t19 ≠ s85 := Nat.ne_of_lt (Nat.lt_of_lt_of_le fa82.lt zs85)
   have ne_tb65_s85 : tb65 ≠ s85 := Nat.ne_of_lt (Nat.lt_of_lt_of_le V75.lt zs85)
   have ne_b7_t85 : b7 ≠ t85 := Nat.ne_of_lt (Nat.lt_of_lt_of_le fa77.lt zt85)
   have ne_tb14_t85 : tb14 ≠ t85 := Nat.ne_of_lt (Nat.lt_of_lt_of_le fa78.lt zt85)
   have ne_s19_t85 : s19 ≠ t85 := Nat.ne_of_lt (Nat.lt_of_lt_of_le fa79.lt zt85)
   have ne_t19_t85 : t19 ≠ t85 := Nat.ne_of_lt (Nat.lt_of_lt_of_le fa82.lt zt85)
   have ne_tb65_t85 : tb65 ≠ t85 := Nat.ne_of_lt (Nat.lt_of_lt_of_le V75.lt zt85)
   have fa86 := fa76.keep K85 all0
   have fa87 := fa77.keep K85
   have fa88 := fa78.keep K85 nin0
   have fa89 := fa79.keep K85
   have fa90 := fa80.keep K85 nin0
   have fa91 := fa81.keep K85 nin0
   have fa92 := fa82.keep K85 nin0
   have fa93 := Fn75.keep K85 nin0
   have fa94 := Fc75.keep K85 nin0
   have fa95 := Fv75.keep K85 nin0
   have fa96 := V75.keep K85 nin0
   have z97 : n0 ≤ T85.heap.size := Nat.le_trans z83 K85.1
   have kp98 : Keep h0 T85.heap [] := kp84.trans K85 all0
   obtain ⟨fs, hr, hrun, hended, hW, hsame⟩ := X85.leave (v := some (.ref s85)) (fun h => by rw [Bd.returns] at h; cases h)
   refine ⟨_, _, G28 _ ?_, hrun, hended, _, _, rfl, ?_, ⟨_, rfl⟩, hW, hsame.mono (by decide) (by decide)⟩
   ·skip
    refine st65.trans ?_
    refine XS.lload X65.here hx rfl (hb hby d7_125) rfl ?_
    refine st75.trans ?_
    refine st85.trans ?_
    refine XS.goto X85.here hx rfl (pc0 := 133) (pc' := 159) rfl (hb hby d7_133) (by decide) (by decide) ?_
    exact retOut X85 hx Bd.returns rfl (Or.inr (Or.inr (Or.inr (Or.inr ⟨rfl, rfl, rfl⟩)))) (hb hby d7_159) hr
   ·show Q7 Z q0 cst fv h0 n0 _ T85.heap _
    exact ⟨s85, t85, kb85, 20, rfl, N85, kp98, A85, Fc85, Fv85, by rw [HQ6, ← own_fin19 HQ5]; exact V85, zsk85, ztk85, by rw [HQ6]; exact own_ln1 (by have q := own_ln0 qd.toInt.toNat (by omega); rw [hD] at q; exact q) HQ5 (by omega) (by decide)⟩
 ·skip
  obtain ⟨_, _, ⟨T99, L99, k99, n99⟩, -, X99, ⟨Lc99, hQ99, l99, y99, z99⟩, st99⟩ := Jvm.LawKit.callS X0 hx (y := (⟨"java/lang/Long", "toString", "(JI)Ljava/lang/String;"⟩ : MethodName)) hown (mvT hZ (hq hw 41 rfl)) (mvT hZ (hq hw 42 rfl)) (mvT hZ (hq hw 36 rfl)) (mvT hZ (hq hw 43 rfl)) (by decide) (backOf (W := 0) (rm8 l Z a0 hw [] q0  cst fv h0 n0 Z0  O0 hc3_2 TB SS) hZ (hq hw 43 rfl) (hq hw 36 rfl) (by decide) (by decide)) (g := (mkF m 8 #[.val (.long q0), .second, iv 10, .unset, .unset, .unset, .unset] [(.int (10 : Int32)), (.long q0)])) rfl (by rw [hml]; rfl) (argsL := [(.long q0), (.int (10 : Int32))]) (rest := []) (lenOf pd_31 rfl) rfl (by show 2 * 0 + _ ≤ _; exact Nat.le_of_eq rfl) (hb hby d7_8) (fun _ _ => ⟨rfl, e0, (by decide : 0 + 2 ≤ _), (by decide : 0 + 24 ≤ _)⟩)
  dsimp only [Pt.U, Pt.locs, Pt.cells, Pt.slots] at X99 l99 y99 z99 st99 hQ99
  subst l99 y99 z99
  obtain ⟨s99, t99, kb99, rfl, N99q, K99, A99, Fc99, Fv99, V99, zs99, zt99⟩ := hQ99
  have N99 := Fr.app N0 N99q
  have zsk99 : h0.size ≤ s99 := Nat.le_trans kp0.1 zs99
  have ztk99 : h0.size ≤ t99 := Nat.le_trans kp0.1 zt99
  have fa100 := O0.keep K99 all0
  have z101 : n0 ≤ T99.heap.size := Nat.le_trans Z0 K99.1
  have kp102 : Keep h0 T99.heap [] := kp0.trans K99 all0
  obtain ⟨fs, hr, hrun, hended, hW, hsame⟩ := X99.leave (v := some (.ref s99)) (fun h => by rw [Bd.returns] at h; cases h)
  refine ⟨_, _, G1 _ ?_, hrun, hended, _, _, rfl, ?_, ⟨_, rfl⟩, hW, hsame.mono (by decide) (by decide)⟩
  ·skip
   refine XS.ifNo X0.here hx rfl (hb hby d7_3) rfl ((if0 _ _).trans (flt (fun q => hc3_2 ((lw_lt _ _).mp q))).1) ?_
   refine XS.lloadN X0.here hx rfl (hb hby d7_6) rfl ?_
   refine XS.iloadN X0.here hx rfl (hb hby d7_7) rfl ?_
   refine st99 _ ?_
   exact retOut X99 hx Bd.returns rfl (Or.inr (Or.inr (Or.inr (Or.inr ⟨rfl, rfl, rfl⟩)))) (hb hby d7_11) hr
  ·show Q7 Z q0 cst fv h0 n0 _ T99.heap _
   exact ⟨s99, t99, kb99, Jvm.Free.SBG.digitsL q0.toInt.toNat, rfl, N99, kp102, A99, Fc99, Fv99, by rw [(own_u3 hc3_2).1]; exact V99, zsk99, ztk99, by rw [(own_u3 hc3_2).1]; exact own_ln0 _ (own_u3 hc3_2).2⟩
theorem d6_0 : decode jdk_35_method_13_code 0 = .ok (.lload_n 0, 1) := by decide +kernel
theorem d6_1 : decode jdk_35_method_13_code 1 = .ok (.bipush 10, 2) := by decide +kernel
theorem d6_3 : decode jdk_35_method_13_code 3 = .ok (.invokestatic 126, 3) := by decide +kernel
theorem d6_6 : decode jdk_35_method_13_code 6 = .ok (.areturn, 1) := by decide +kernel
def Q6 (Z : State) (q0 : Int64) (cst : Int32) (fv : Value) (h0 : Heap) (n0 : Nat) (v : Option Value) (h : Heap) (L : List Loc) : Prop := ∃ (s t : Addr) (k : ClassId) (len : Nat), v = some (.ref s) ∧ Fr n0 L ∧ Keep h0 h [] ∧ Exa Z h s "java/lang/String" ∧ Fld Z h s "java/lang/String" "coder" "B" (.int (0 : Int32)) ∧ Fld Z h s "java/lang/String" "value" "[B" (.ref t) ∧ Arv Z h t k .byte (Int32.ofNat len) (own_ds len (own_u q0)) (.int (0 : Int32)) ∧ h0.size ≤ s ∧ h0.size ≤ t ∧ own_ln len (own_u q0)
theorem ef_rm6 (m : MethodId) (x0 : Int64) : entryFrame m #[(.long x0)] 2 = mkF m 0 #[.val (.long x0), .second] [] := by first | (simp [entryFrame, mkF, argsToLocals, Value.category]; done) | rfl
set_option maxRecDepth 65536 in
set_option maxHeartbeats 40000000 in
theorem rm6 (l : Launch) (Z : State) (a0 : Array Value) (hw : ∀ d ∈ tables_1, d.before a0 Z = true) (ws : List Jvm.Cond) (q0 : Int64) (cst : Int32) (fv : Value) (h0 : Heap) (n0 : Nat) (Z0 : n0 ≤ h0.size) (O0 : Old Z n0 h0) (TB : own_TB Z) (SS : Sts Z cst fv) :
  MetFree l (⟨"java/lang/Long", "toUnsignedString", "(J)Ljava/lang/String;"⟩ : MethodName) (head1 (Jvm.Cond.code (⟨"java/lang/Long", "toUnsignedString", "(J)Ljava/lang/String;"⟩ : MethodName) jdk_35_method_13_code 2 (some (.object "java/lang/String")) :: ws) ({ frames := 7, cells := 7, slots := 102, locals := 152 } : Room)) (fun a U => a = #[(.long q0)] ∧ Z.Warmed39 U.vm ∧ U.heap = h0) (fun _ _ _ _ _ => True) (fun _ U o U' => ∃ v L, o = .returned v ∧ Q6 Z q0 cst fv h0 n0 v U'.heap L ∧ FrameEnd U o U' L ({ frames := 7, cells := 7, slots := 102, locals := 152 } : Room).cells ({ frames := 7, cells := 7, slots := 102, locals := 152 } : Room).slots) := by
 refine MetFree.of_bodySF (plainFor_of_name pnc_java_lang_Long) hisR ?_
 intro p e s m args below meth c s₁ Bd hml0 hP hK
 obtain ⟨rfl, hZ, hh⟩ := hP
 have hx := Bd.exec
 have hby := Bd.bytes
 have hml : c.maxLocals = 2 := hml0
 have hown : s.vm.findClass "java/lang/Long" = some m.cls := findClass_of_methodNamed Bd.named
 have hnm := (name_of_methodNamed Bd.named Bd.method).1
 have X0 : Stand p l e ({ frames := 7, cells := 7, slots := 102, locals := 152 } : Room) s m #[(.long q0)] below meth c s₁ [] 0 0 := Stand.of_body Bd
 have e0 : s₁.heap = h0 := by rw [← hh, Bd.state]; rfl
 have N0 := Fr.nil n0
 have kp0 : Keep h0 h0 [] := Keep.refl _ _
 have G0 : ∀ t, Steps p.tables e below (s₁.setTop (mkF m 0 #[.val (.long q0), .second] [])) t → Steps p.tables e below (s₁.setTop (entryFrame m #[(.long q0)] 2)) t := fun t k => castTop (ef_rm6 m q0) k
 obtain ⟨_, _, ⟨T1, L1, k1, n1⟩, -, X1, ⟨Lc1, hQ1, l1, y1, z1⟩, st1⟩ := Jvm.LawKit.callS X0 hx (y := (⟨"java/lang/Long", "toUnsignedString", "(JI)Ljava/lang/String;"⟩ : MethodName)) hown (mvT hZ (hq hw 38 rfl)) (mvT hZ (hq hw 39 rfl)) (mvT hZ (hq hw 36 rfl)) (mvT hZ (hq hw 40 rfl)) (by decide) (backOf (W := 0) (rm7 l Z a0 hw [] q0  cst fv h0 n0 Z0  O0 TB SS) hZ (hq hw 40 rfl) (hq hw 36 rfl) (by decide) (by decide)) (g := (mkF m 3 #[.val (.long q0), .second] [(.int (10 : Int32)), (.long q0)])) rfl (by rw [hml]; rfl) (argsL := [(.long q0), (.int (10 : Int32))]) (rest := []) (lenOf pd_31 rfl) rfl (by show 2 * 0 + _ ≤ _; exact Nat.le_of_eq rfl) (hb hby d6_3) (fun _ _ => ⟨rfl, e0, (by decide : 0 + 7 ≤ _), (by decide : 0 + 102 ≤ _)⟩)
 dsimp only [Pt.U, Pt.locs, Pt.cells, Pt.slots] at X1 l1 y1 z1 st1 hQ1
 subst l1 y1 z1
 obtain ⟨s1, t1, kb1, len1, rfl, N1q, K1, A1, Fc1, Fv1, V1, zs1, zt1, hln1⟩ := hQ1
 have N1 := Fr.app N0 N1q
 have zsk1 : h0.size ≤ s1 := Nat.le_trans kp0.1 zs1
 have ztk1 : h0.size ≤ t1 := Nat.le_trans kp0.1 zt1
 have fa2 := O0.keep K1 all0
 have z3 : n0 ≤ T1.heap.size := Nat.le_trans Z0 K1.1
 have kp4 : Keep h0 T1.heap [] := kp0.trans K1 all0
 obtain ⟨fs, hr, hrun, hended, hW, hsame⟩ := X1.leave (v := some (.ref s1)) (fun h => by rw [Bd.returns] at h; cases h)
 refine ⟨_, _, G0 _ ?_, hrun, hended, _, _, rfl, ?_, ⟨_, rfl⟩, hW, hsame.mono (by decide) (by decide)⟩
 ·skip
  refine XS.lloadN X0.here hx rfl (hb hby d6_0) rfl ?_
  refine XS.bipush X0.here hx rfl (hb hby d6_1) ?_
  refine st1 _ ?_
  exact retOut X1 hx Bd.returns rfl (Or.inr (Or.inr (Or.inr (Or.inr ⟨rfl, rfl, rfl⟩)))) (hb hby d6_6) hr
 ·show Q6 Z q0 cst fv h0 n0 _ T1.heap _
  exact ⟨s1, t1, kb1, len1, rfl, N1, kp4, A1, Fc1, Fv1, V1, zsk1, ztk1, hln1⟩
theorem d5_0 : decode prog_8_method_14_code 0 = .ok (.aload_n 0, 1) := by decide +kernel
theorem d5_1 : decode prog_8_method_14_code 1 = .ok (.getfield 9, 3) := by decide +kernel
theorem d5_4 : decode prog_8_method_14_code 4 = .ok (.invokestatic 78, 3) := by decide +kernel
theorem d5_7 : decode prog_8_method_14_code 7 = .ok (.areturn, 1) := by decide +kernel
def Q5 (Z : State) (r0 : Addr) (va : Int64) (cst : Int32) (fv : Value) (h0 : Heap) (n0 : Nat) (v : Option Value) (h : Heap) (L : List Loc) : Prop := ∃ (s t : Addr) (k : ClassId) (len : Nat), v = some (.ref s) ∧ Fr n0 L ∧ Keep h0 h [] ∧ Exa Z h s "java/lang/String" ∧ Fld Z h s "java/lang/String" "coder" "B" (.int (0 : Int32)) ∧ Fld Z h s "java/lang/String" "value" "[B" (.ref t) ∧ Arv Z h t k .byte (Int32.ofNat len) (own_ds len (own_u va)) (.int (0 : Int32)) ∧ h0.size ≤ s ∧ h0.size ≤ t ∧ own_ln len (own_u va)
theorem ef_rm5 (m : MethodId) (x0 : Addr) : entryFrame m #[(.ref x0)] 1 = mkF m 0 #[.val (.ref x0)] [] := by first | (simp [entryFrame, mkF, argsToLocals, Value.category]; done) | rfl
set_option maxRecDepth 65536 in
set_option maxHeartbeats 40000000 in
theorem rm5 (l : Launch) (Z : State) (a0 : Array Value) (hw : ∀ d ∈ tables_1, d.before a0 Z = true) (ws : List Jvm.Cond) (r0 : Addr) (va : Int64) (cst : Int32) (fv : Value) (h0 : Heap) (n0 : Nat) (Z0 : n0 ≤ h0.size) (Fa : Fld Z h0 r0 "com/example/fides/fides/HybridTimestamp" "bits" "J" (.long va)) (O0 : Old Z n0 h0) (TB : own_TB Z) (SS : Sts Z cst fv) :
  MetFree l (⟨"com/example/fides/fides/HybridTimestamp", "toString", "()Ljava/lang/String;"⟩ : MethodName) (head1 (Jvm.Cond.code (⟨"com/example/fides/fides/HybridTimestamp", "toString", "()Ljava/lang/String;"⟩ : MethodName) prog_8_method_14_code 1 (some (.object "java/lang/String")) :: ws) ({ frames := 8, cells := 7, slots := 102, locals := 165 } : Room)) (fun a U => a = #[(.ref r0)] ∧ Z.Warmed39 U.vm ∧ U.heap = h0) (fun _ _ _ _ _ => True) (fun _ U o U' => ∃ v L, o = .returned v ∧ Q5 Z r0 va cst fv h0 n0 v U'.heap L ∧ FrameEnd U o U' L ({ frames := 8, cells := 7, slots := 102, locals := 165 } : Room).cells ({ frames := 8, cells := 7, slots := 102, locals := 165 } : Room).slots) := by
 refine MetFree.of_bodySF (plainFor_of_name pnc_com_example_fides_fides_HybridTimestamp) hisR ?_
 intro p e s m args below meth c s₁ Bd hml0 hP hK
 obtain ⟨rfl, hZ, hh⟩ := hP
 have hx := Bd.exec
 have hby := Bd.bytes
 have hml : c.maxLocals = 1 := hml0
 have hown : s.vm.findClass "com/example/fides/fides/HybridTimestamp" = some m.cls := findClass_of_methodNamed Bd.named
 have hnm := (name_of_methodNamed Bd.named Bd.method).1
 have X0 : Stand p l e ({ frames := 8, cells := 7, slots := 102, locals := 165 } : Room) s m #[(.ref r0)] below meth c s₁ [] 0 0 := Stand.of_body Bd
 have e0 : s₁.heap = h0 := by rw [← hh, Bd.state]; rfl
 have N0 := Fr.nil n0
 have kp0 : Keep h0 h0 [] := Keep.refl _ _
 have G0 : ∀ t, Steps p.tables e below (s₁.setTop (mkF m 0 #[rv r0] [])) t → Steps p.tables e below (s₁.setTop (entryFrame m #[(.ref r0)] 1)) t := fun t k => castTop (ef_rm5 m r0) k
 obtain ⟨T1, X1, e1, st1⟩ := getF X0 hx hZ hown (host := "") (Or.inl (hq hw 27 rfl)) Via.refl e0 Fa (g := (mkF m 1 #[rv r0] [(.ref r0)])) rfl rfl (hb hby d5_1)
 obtain ⟨_, _, ⟨T2, L2, k2, n2⟩, -, X2, ⟨Lc2, hQ2, l2, y2, z2⟩, st2⟩ := Jvm.LawKit.callS X1 hx (y := (⟨"java/lang/Long", "toUnsignedString", "(J)Ljava/lang/String;"⟩ : MethodName)) hown (mvT hZ (hq hw 34 rfl)) (mvT hZ (hq hw 35 rfl)) (mvT hZ (hq hw 36 rfl)) (mvT hZ (hq hw 37 rfl)) (by decide) (backOf (W := 0) (rm6 l Z a0 hw [] va  cst fv h0 n0 Z0  O0 TB SS) hZ (hq hw 37 rfl) (hq hw 36 rfl) (by decide) (by decide)) (g := (mkF m 4 #[rv r0] [(.long va)])) rfl (by rw [hml]; rfl) (argsL := [(.long va)]) (rest := []) (lenOf pd_11 rfl) rfl (by show 2 * 0 + _ ≤ _; exact Nat.le_of_eq rfl) (hb hby d5_4) (fun _ _ => ⟨rfl, e1, (by decide : 0 + 7 ≤ _), (by decide : 0 + 102 ≤ _)⟩)
 dsimp only [Pt.U, Pt.locs, Pt.cells, Pt.slots] at X2 l2 y2 z2 st2 hQ2
 subst l2 y2 z2
 obtain ⟨s2, t2, kb2, len2, rfl, N2q, K2, A2, Fc2, Fv2, V2, zs2, zt2, hln2⟩ := hQ2
 have N2 := Fr.app N0 N2q
 have zsk2 : h0.size ≤ s2 := Nat.le_trans kp0.1 zs2
 have ztk2 : h0.size ≤ t2 := Nat.le_trans kp0.1 zt2
 have ne_r0_s2 : r0 ≠ s2 := Nat.ne_of_lt (Nat.lt_of_lt_of_le Fa.lt zs2)
 have ne_r0_t2 : r0 ≠ t2 := Nat.ne_of_lt (Nat.lt_of_lt_of_le Fa.lt zt2)
 have fa3 := Fa.keep K2 nin0
 have fa4 := O0.keep K2 all0
 have z5 : n0 ≤ T2.heap.size := Nat.le_trans Z0 K2.1
 have kp6 : Keep h0 T2.heap [] := kp0.trans K2 all0
 obtain ⟨fs, hr, hrun, hended, hW, hsame⟩ := X2.leave (v := some (.ref s2)) (fun h => by rw [Bd.returns] at h; cases h)
 refine ⟨_, _, G0 _ ?_, hrun, hended, _, _, rfl, ?_, ⟨_, rfl⟩, hW, hsame.mono (by decide) (by decide)⟩
 ·skip
  refine XS.aloadN X0.here hx rfl (hb hby d5_0) rfl rfl ?_
  refine st1 _ ?_
  refine st2 _ ?_
  exact retOut X2 hx Bd.returns rfl (Or.inr (Or.inr (Or.inr (Or.inr ⟨rfl, rfl, rfl⟩)))) (hb hby d5_7) hr
 ·show Q5 Z r0 va cst fv h0 n0 _ T2.heap _
  exact ⟨s2, t2, kb2, len2, rfl, N2, kp6, A2, Fc2, Fv2, V2, zsk2, ztk2, hln2⟩
def own_SM (Z : State) : Prop := Sta Z Z.heap "com/example/fides/fides/HybridTimestamp" "MAX_VALUE_BEFORE_LAST_DIGIT" "J" (.long (1844674407370955161 : Int64)) ∧ Sta Z Z.heap "com/example/fides/fides/HybridTimestamp" "MAX_LAST_DIGIT" "I" (.int (5 : Int32))
theorem own_chd (len n i : Nat) : nar .char (fchL (own_dg len n i)) = own_dg len n i := by
  unfold own_dg
  have h : n / 10 ^ (len - 1 - i) % 10 < 10 := Nat.mod_lt _ (by decide)
  generalize n / 10 ^ (len - 1 - i) % 10 = k at *
  have : ∀ k, k < 10 → nar .char (fchL (Int32.ofNat (48 + k))) = Int32.ofNat (48 + k) := by decide
  exact this k h
theorem own_cu {k : Nat} (h : k ≤ 1844674407370955161) : ¬ ((0 : Int32) < (fcu (Int64.ofNat k) (1844674407370955161 : Int64))) := by
  have a := own_uflip k (by omega)
  have b := own_uflip 1844674407370955161 (by decide)
  rw [show Int64.ofNat 1844674407370955161 = (1844674407370955161 : Int64) from rfl] at b
  unfold fcu fcmp
  by_cases h1 : (Int64.ofNat k + (-9223372036854775808 : Int64)) < ((1844674407370955161 : Int64) + (-9223372036854775808 : Int64))
  · rw [if_pos h1]; decide
  · rw [if_neg h1]
    rw [Int64.lt_iff_toInt_lt, a, b] at h1
    have e : (Int64.ofNat k + (-9223372036854775808 : Int64)) = ((1844674407370955161 : Int64) + (-9223372036854775808 : Int64)) := Int64.toInt_inj.mp (by rw [a, b]; omega)
    rw [if_pos e]; decide
theorem own_mx {k : Nat} (h : k < 18446744073709551616) (e : Int64.ofNat k = (1844674407370955161 : Int64)) : k = 1844674407370955161 := by
  have a := own_uflip k h
  have b := own_uflip 1844674407370955161 (by decide)
  rw [show Int64.ofNat 1844674407370955161 = (1844674407370955161 : Int64) from rfl, ← e, a] at b
  omega
theorem own_h5 {len n i : Nat} (h : i < len) (hn : n < 18446744073709551616) (e : Int64.ofNat (n / 10 ^ (len - i)) = (1844674407370955161 : Int64)) : ¬ ((5 : Int32) < (own_dg len n i - (48 : Int32))) := by
  have b := own_vle len n i h hn
  have c1 := own_vld len n i h hn (own_mx (by omega) e)
  rw [own_dgs]
  generalize n / 10 ^ (len - 1 - i) % 10 = k at *
  have : ∀ k, k < 6 → ¬ ((5 : Int32) < Int32.ofNat k) := by decide
  exact this k (by omega)
theorem own_v0 {len n : Nat} (h : own_ln len n) : (0 : Int64) = Int64.ofNat (n / 10 ^ (len - 0)) := by rw [Nat.sub_zero, Nat.div_eq_of_lt h.1]; rfl
theorem own_ilt {i len : Nat} (h : i < len) (hl : len ≤ 20) : Int32.ofNat i < Int32.ofNat len := by
  rw [Int32.lt_iff_toInt_lt, (own_ofn (k := i) (by omega)).2.2, (own_ofn (k := len) (by omega)).2.2]; omega
theorem own_inn (i : Nat) : Int32.ofNat i + (1 : Int32) = Int32.ofNat (i + 1) := (Int32.ofNat_add i 1).symm
theorem d15_0 : decode jdk_42_method_55_code 0 = .ok (.aload_n 0, 1) := by decide +kernel
theorem d15_1 : decode jdk_42_method_55_code 1 = .ok (.getfield 9, 3) := by decide +kernel
theorem d15_4 : decode jdk_42_method_55_code 4 = .ok (.arraylength, 1) := by decide +kernel
theorem d15_5 : decode jdk_42_method_55_code 5 = .ok (.ifCond .ne 7, 3) := by decide +kernel
theorem d15_12 : decode jdk_42_method_55_code 12 = .ok (.iconst 0, 1) := by decide +kernel
theorem d15_13 : decode jdk_42_method_55_code 13 = .ok (.ireturn, 1) := by decide +kernel
def Q15 (Z : State) (r0 : Addr) (ta : Addr) (kk : ClassId) (nn : Int32) (vs : List Value) (cst : Int32) (fv : Value) (h0 : Heap) (n0 : Nat) (v : Option Value) (h : Heap) (L : List Loc) : Prop := v = some (.int (0 : Int32)) ∧ Fr n0 L ∧ h = h0
theorem ef_rm15 (m : MethodId) (x0 : Addr) : entryFrame m #[(.ref x0)] 1 = mkF m 0 #[.val (.ref x0)] [] := by first | (simp [entryFrame, mkF, argsToLocals, Value.category]; done) | rfl
set_option maxRecDepth 65536 in
set_option maxHeartbeats 40000000 in
theorem rm15 (l : Launch) (Z : State) (a0 : Array Value) (hw : ∀ d ∈ tables_1, d.before a0 Z = true) (ws : List Jvm.Cond) (r0 : Addr) (ta : Addr) (kk : ClassId) (nn : Int32) (vs : List Value) (cst : Int32) (fv : Value) (h0 : Heap) (n0 : Nat) (Z0 : n0 ≤ h0.size) (Fv : Fld Z h0 r0 "java/lang/String" "value" "[B" (.ref ta)) (V0 : Arv Z h0 ta kk .byte nn vs (.int (0 : Int32))) (O0 : Old Z n0 h0) (hnz : ¬ (nn = (0 : Int32))) (SS : Sts Z cst fv) :
  MetFree l (⟨"java/lang/String", "isEmpty", "()Z"⟩ : MethodName) (head1 (Jvm.Cond.code (⟨"java/lang/String", "isEmpty", "()Z"⟩ : MethodName) jdk_42_method_55_code 1 (some .boolean) :: ws) ({ frames := 0, cells := 0, slots := 0, locals := 0 } : Room)) (fun a U => a = #[(.ref r0)] ∧ Z.Warmed39 U.vm ∧ U.heap = h0) (fun _ _ _ _ _ => True) (fun _ U o U' => ∃ v L, o = .returned v ∧ Q15 Z r0 ta kk nn vs cst fv h0 n0 v U'.heap L ∧ FrameEnd U o U' L ({ frames := 0, cells := 0, slots := 0, locals := 0 } : Room).cells ({ frames := 0, cells := 0, slots := 0, locals := 0 } : Room).slots) := by
 refine MetFree.of_bodySF (plainFor_of_name pnc_java_lang_String) hisR ?_
 intro p e s m args below meth c s₁ Bd hml0 hP hK
 obtain ⟨rfl, hZ, hh⟩ := hP
 have hx := Bd.exec
 have hby := Bd.bytes
 have hml : c.maxLocals = 1 := hml0
 have hown : s.vm.findClass "java/lang/String" = some m.cls := findClass_of_methodNamed Bd.named
 have hnm := (name_of_methodNamed Bd.named Bd.method).1
 have X0 : Stand p l e ({ frames := 0, cells := 0, slots := 0, locals := 0 } : Room) s m #[(.ref r0)] below meth c s₁ [] 0 0 := Stand.of_body Bd
 have e0 : s₁.heap = h0 := by rw [← hh, Bd.state]; rfl
 have N0 := Fr.nil n0
 have kp0 : Keep h0 h0 [] := Keep.refl _ _
 have G0 : ∀ t, Steps p.tables e below (s₁.setTop (mkF m 0 #[rv r0] [])) t → Steps p.tables e below (s₁.setTop (entryFrame m #[(.ref r0)] 1)) t := fun t k => castTop (ef_rm15 m r0) k
 obtain ⟨T1, X1, e1, st1⟩ := getF X0 hx hZ hown (host := "") (Or.inl (hq hw 64 rfl)) Via.refl e0 Fv (g := (mkF m 1 #[rv r0] [(.ref r0)])) rfl rfl (hb hby d15_1)
 obtain ⟨cl2, Ar2, q2, S2, M2, H2, G2⟩ := id V0
 have G3 : ∀ t, Steps p.tables e below (T1.setTop (mkF m 5 #[rv r0] [(.int nn)])) t → Steps p.tables e below (s₁.setTop (entryFrame m #[(.ref r0)] 1)) t := by
  intro t kt
  refine G0 _ ?_
  refine XS.aloadN X0.here hx rfl (hb hby d15_0) rfl rfl ?_
  refine st1 _ ?_
  refine X1.arraylength hx (by rw [e1]; exact Ar2.1) (State.isArrayOf_alike hZ.alike Ar2.2.1) (g := (mkF m 4 #[rv r0] [(.ref ta)])) rfl rfl (hb hby d15_4) _ ?_
  rw [len_of S2 M2]
  exact kt
 have hc5_4 : ¬ (nn = (0 : Int32)) := hnz
 obtain ⟨fs, hr, hrun, hended, hW, hsame⟩ := X1.leave (v := some (.int (0 : Int32))) (fun h => by rw [Bd.returns] at h; cases h)
 refine ⟨_, _, G3 _ ?_, hrun, hended, _, _, rfl, ?_, ⟨_, rfl⟩, hW, hsame.mono (by decide) (by decide)⟩
 ·skip
  refine XS.ifYes X1.here hx rfl (pc0 := 5) (pc' := 12) rfl (hb hby d15_5) rfl ((if0 _ _).trans (feq hc5_4).2) (by decide) (by decide) ?_
  refine XS.iconst X1.here hx rfl (hb hby d15_12) ?_
  exact retN X1 hx (t := .boolean) Bd.returns (by simp) (hb hby d15_13) hr
 ·show Q15 Z r0 ta kk nn vs cst fv h0 n0 _ T1.heap _
  rw [e1]
  exact ⟨rfl, N0, rfl⟩
theorem d13_56 : decode prog_8_method_3_code 56 = .ok (.iload_n 3, 1) := by decide +kernel
theorem d13_57 : decode prog_8_method_3_code 57 = .ok (.aload_n 0, 1) := by decide +kernel
theorem d13_58 : decode prog_8_method_3_code 58 = .ok (.invokevirtual 49, 3) := by decide +kernel
theorem d13_61 : decode prog_8_method_3_code 61 = .ok (.if_icmp .ge 106, 3) := by decide +kernel
theorem d13_64 : decode prog_8_method_3_code 64 = .ok (.aload_n 0, 1) := by decide +kernel
theorem d13_65 : decode prog_8_method_3_code 65 = .ok (.iload_n 3, 1) := by decide +kernel
theorem d13_66 : decode prog_8_method_3_code 66 = .ok (.invokevirtual 53, 3) := by decide +kernel
theorem pd_32 : parseMethodDescriptor "(I)C" = some ⟨[.int], some .char⟩ := by decide +kernel
theorem d13_69 : decode prog_8_method_3_code 69 = .ok (.istore 4, 2) := by decide +kernel
theorem d13_71 : decode prog_8_method_3_code 71 = .ok (.iload 4, 2) := by decide +kernel
theorem d13_73 : decode prog_8_method_3_code 73 = .ok (.bipush 48, 2) := by decide +kernel
theorem d13_75 : decode prog_8_method_3_code 75 = .ok (.if_icmp .lt 10, 3) := by decide +kernel
theorem d13_78 : decode prog_8_method_3_code 78 = .ok (.iload 4, 2) := by decide +kernel
theorem d13_80 : decode prog_8_method_3_code 80 = .ok (.bipush 57, 2) := by decide +kernel
theorem d13_82 : decode prog_8_method_3_code 82 = .ok (.if_icmp .le 17, 3) := by decide +kernel
theorem d13_99 : decode prog_8_method_3_code 99 = .ok (.iload 4, 2) := by decide +kernel
theorem d13_101 : decode prog_8_method_3_code 101 = .ok (.bipush 48, 2) := by decide +kernel
theorem d13_103 : decode prog_8_method_3_code 103 = .ok (.isub, 1) := by decide +kernel
theorem d13_104 : decode prog_8_method_3_code 104 = .ok (.istore 5, 2) := by decide +kernel
theorem d13_106 : decode prog_8_method_3_code 106 = .ok (.lload_n 1, 1) := by decide +kernel
theorem d13_107 : decode prog_8_method_3_code 107 = .ok (.getstatic 63, 3) := by decide +kernel
theorem d13_110 : decode prog_8_method_3_code 110 = .ok (.invokestatic 66, 3) := by decide +kernel
theorem d13_113 : decode prog_8_method_3_code 113 = .ok (.ifCond .gt 19, 3) := by decide +kernel
theorem d13_116 : decode prog_8_method_3_code 116 = .ok (.lload_n 1, 1) := by decide +kernel
theorem d13_117 : decode prog_8_method_3_code 117 = .ok (.getstatic 63, 3) := by decide +kernel
theorem d13_120 : decode prog_8_method_3_code 120 = .ok (.lcmp, 1) := by decide +kernel
theorem d13_121 : decode prog_8_method_3_code 121 = .ok (.ifCond .ne 30, 3) := by decide +kernel
theorem d13_124 : decode prog_8_method_3_code 124 = .ok (.iload 5, 2) := by decide +kernel
theorem d13_126 : decode prog_8_method_3_code 126 = .ok (.getstatic 72, 3) := by decide +kernel
theorem d13_129 : decode prog_8_method_3_code 129 = .ok (.if_icmp .le 22, 3) := by decide +kernel
theorem d13_151 : decode prog_8_method_3_code 151 = .ok (.lload_n 1, 1) := by decide +kernel
theorem d13_152 : decode prog_8_method_3_code 152 = .ok (.ldc2_w 85, 3) := by decide +kernel
theorem d13_155 : decode prog_8_method_3_code 155 = .ok (.lmul, 1) := by decide +kernel
theorem d13_156 : decode prog_8_method_3_code 156 = .ok (.iload 5, 2) := by decide +kernel
theorem d13_158 : decode prog_8_method_3_code 158 = .ok (.i2l, 1) := by decide +kernel
theorem d13_159 : decode prog_8_method_3_code 159 = .ok (.ladd, 1) := by decide +kernel
theorem d13_160 : decode prog_8_method_3_code 160 = .ok (.lstore_n 1, 1) := by decide +kernel
theorem d13_161 : decode prog_8_method_3_code 161 = .ok (.iinc 3 1, 3) := by decide +kernel
theorem d13_164 : decode prog_8_method_3_code 164 = .ok (.goto (-108), 3) := by decide +kernel
set_option maxRecDepth 65536 in
set_option maxHeartbeats 40000000 in
theorem own_turn {p : Program} {l : Launch} {e : Env} {s : State} {m : MethodId} {args : Array Value} {below : List Frame} {meth : Method} {c : Code} {T0 : State} {locs : List Loc} {cells slots : Nat} {Z : State} {a0 : Array Value} {h0 : Heap} {n0 : Nat} (r0 ta : Addr) (kk : ClassId) (nn : Int32) (vs : List Value) (vv : Int64) (ix dg : Int32) (s4 s5 : Slot) (cst : Int32) (fv : Value)
  (X0 : Stand p l e ({ frames := 8, cells := 4, slots := 64, locals := 150 } : Room) s m args below meth c T0 locs cells slots) (hx : p.tables.exec = Jvm.exec) (hZ : Z.Warmed39 s.vm) (hw : ∀ d ∈ tables_1, d.before a0 Z = true) (hby : c.code = prog_8_method_3_code) (hml : c.maxLocals = 6) (hown : s.vm.findClass "com/example/fides/fides/HybridTimestamp" = some m.cls) (e0 : T0.heap = h0) (N0 : Fr n0 locs) (Z0 : n0 ≤ h0.size) (Ey : Exa Z h0 r0 "java/lang/String") (Fcy : Fld Z h0 r0 "java/lang/String" "coder" "B" (.int (0 : Int32))) (Fvy : Fld Z h0 r0 "java/lang/String" "value" "[B" (.ref ta)) (V0 : Arv Z h0 ta kk .byte nn vs (.int (0 : Int32))) (O0 : Old Z n0 h0) (hce : cells ≤ ({ frames := 8, cells := 4, slots := 64, locals := 150 } : Room).cells) (hsl : slots ≤ ({ frames := 8, cells := 4, slots := 64, locals := 150 } : Room).slots) (hs4 : One s4) (hs5 : One s5) (hlt : ix < nn) (hlo : ¬ (ix < (0 : Int32))) (g0 : vs.getD (ix).toNatClampNeg (.int (0 : Int32)) = .int dg) (hres : nar .char (fchL dg) = dg) (h48 : ¬ (dg < (48 : Int32))) (h57 : ¬ ((57 : Int32) < dg)) (hcu : ¬ ((0 : Int32) < (fcu vv (1844674407370955161 : Int64)))) (h5 : vv = (1844674407370955161 : Int64) → ¬ ((5 : Int32) < (dg - (48 : Int32)))) (SM : own_SM Z) (SS : Sts Z cst fv) :
  ∃ (T' : State) (L' : List Loc), Stand p l e ({ frames := 8, cells := 4, slots := 64, locals := 150 } : Room) s m args below meth c T' L' cells slots ∧ T'.heap = h0 ∧ Fr n0 L' ∧ ∀ t, Steps p.tables e below (T'.setTop (mkF m 56 #[rv r0, .val (.long ((vv * (10 : Int64)) + ((dg - (48 : Int32)).toInt64))), .second, .val (.int (ix + (1 : Int32))), .val (.int dg), .val (.int (dg - (48 : Int32)))] [])) t → Steps p.tables e below (T0.setTop (mkF m 56 #[rv r0, .val (.long vv), .second, iv ix, s4, s5] [])) t := by
 have kp0 : Keep h0 h0 [] := Keep.refl _ _
 have G0 : ∀ t, Steps p.tables e below (T0.setTop (mkF m 56 #[rv r0, .val (.long vv), .second, iv ix, s4, s5] [])) t → Steps p.tables e below (T0.setTop (mkF m 56 #[rv r0, .val (.long vv), .second, iv ix, s4, s5] [])) t := fun t k => k
 obtain ⟨cq1, kq1, q1a, q1b, q1c⟩ := isOf hZ e0 Ey
 obtain ⟨_, _, ⟨T1, L1, k1, n1⟩, -, X1, ⟨Lc1, hQ1, l1, y1, z1⟩, st1⟩ := X0.virtualBack hx (y := (⟨"java/lang/String", "length", "()I"⟩ : MethodName)) (z := (⟨"java/lang/String", "length", "()I"⟩ : MethodName)) hown (mvT hZ (hq hw 79 rfl)) (mvT hZ (hq hw 80 rfl)) (notFace_of_selects (args := #[]) (mvT hZ (hq hw 82 rfl))) (mvT hZ (hq hw 82 rfl)) (mvT hZ (hq hw 81 rfl)) (by decide) (backOf (W := 1) (rm16 l Z a0 hw [] r0 (0 : Int32) ta kk nn vs nn cst fv h0 n0 Z0 Ey Fcy Fvy V0 O0 (own_len _) SS) hZ (hq hw 83 rfl) (hq hw 6 rfl) (by decide) (by decide)) q1a q1c (g := (mkF m 58 #[rv r0, .val (.long vv), .second, iv ix, s4, s5] [(.ref r0), (.int ix)])) rfl (by rw [hml]; rfl) (Steps.refl _) (argsL := []) (rest := [(.int ix)]) (lenOf pd_19 rfl) rfl (by show 2 * 0 + _ ≤ _; exact Nat.le_of_eq rfl) (hb hby d13_58) (fun _ _ => ⟨rfl, e0, hce, hsl⟩)
 dsimp only [Pt.U, Pt.locs, Pt.cells, Pt.slots] at X1 l1 y1 z1 st1 hQ1
 subst l1 y1 z1
 obtain ⟨rfl, N1q, eh1⟩ := hQ1
 have N1 := Fr.app N0 N1q
 have G2 : ∀ t, Steps p.tables e below (T1.setTop (mkF m 61 #[rv r0, .val (.long vv), .second, iv ix, s4, s5] [(.int nn), (.int ix)])) t → Steps p.tables e below (T0.setTop (mkF m 56 #[rv r0, .val (.long vv), .second, iv ix, s4, s5] [])) t := by
  intro t kt
  refine G0 _ ?_
  refine XS.iloadN X0.here hx rfl (hb hby d13_56) rfl ?_
  refine XS.aloadN X0.here hx rfl (hb hby d13_57) rfl rfl ?_
  refine st1.trans ?_
  exact kt
 have hc61_3 : ix < nn := hlt
 obtain ⟨cq4, kq4, q4a, q4b, q4c⟩ := isOf hZ eh1 Ey
 obtain ⟨_, _, ⟨T4, L4, k4, n4⟩, -, X4, ⟨Lc4, hQ4, l4, y4, z4⟩, st4⟩ := X1.virtualBack hx (y := (⟨"java/lang/String", "charAt", "(I)C"⟩ : MethodName)) (z := (⟨"java/lang/String", "charAt", "(I)C"⟩ : MethodName)) hown (mvT hZ (hq hw 90 rfl)) (mvT hZ (hq hw 91 rfl)) (notFace_of_selects (args := #[]) (mvT hZ (hq hw 93 rfl))) (mvT hZ (hq hw 93 rfl)) (mvT hZ (hq hw 92 rfl)) (by decide) (backOf (W := 0) (rmChL l Z a0 hw [] r0 ix ta kk nn vs dg dg cst fv h0 n0 Z0 Ey Fcy Fvy V0 O0 hlo hlt g0 hres SS) hZ (hq hw 94 rfl) (hq hw 6 rfl) (by decide) (by decide)) q4a q4c (g := (mkF m 66 #[rv r0, .val (.long vv), .second, iv ix, s4, s5] [(.int ix), (.ref r0)])) rfl (by rw [hml]; rfl) (Steps.refl _) (argsL := [(.int ix)]) (rest := []) (lenOf pd_32 rfl) rfl (by show 2 * 0 + _ ≤ _; exact Nat.le_of_eq rfl) (hb hby d13_66) (fun _ _ => ⟨rfl, eh1, hce, hsl⟩)
 dsimp only [Pt.U, Pt.locs, Pt.cells, Pt.slots] at X4 l4 y4 z4 st4 hQ4
 subst l4 y4 z4
 obtain ⟨rfl, N4q, eh4⟩ := hQ4
 have N4 := Fr.app N1 N4q
 have G5 : ∀ t, Steps p.tables e below (T4.setTop (mkF m 75 #[rv r0, .val (.long vv), .second, iv ix, iv dg, s5] [(.int (48 : Int32)), (.int dg)])) t → Steps p.tables e below (T0.setTop (mkF m 56 #[rv r0, .val (.long vv), .second, iv ix, s4, s5] [])) t := by
  intro t kt
  refine G2 _ ?_
  refine XS.icmpNo X1.here hx rfl (hb hby d13_61) rfl (tlt hc61_3).2.1 ?_
  refine XS.aloadN X1.here hx rfl (hb hby d13_64) rfl rfl ?_
  refine XS.iloadN X1.here hx rfl (hb hby d13_65) rfl ?_
  refine st4.trans ?_
  refine XS.istore X4.here hx rfl (hb hby d13_69) rfl (l' := #[rv r0, .val (.long vv), .second, iv ix, iv dg, s5]) (XS.store1 (o := s4) rfl hs4 rfl) ?_
  refine XS.iload X4.here hx rfl (hb hby d13_71) rfl ?_
  refine XS.bipush X4.here hx rfl (hb hby d13_73) ?_
  exact kt
 have hc75_6 : ¬ (dg < (48 : Int32)) := h48
 have G7 : ∀ t, Steps p.tables e below (T4.setTop (mkF m 82 #[rv r0, .val (.long vv), .second, iv ix, iv dg, s5] [(.int (57 : Int32)), (.int dg)])) t → Steps p.tables e below (T0.setTop (mkF m 56 #[rv r0, .val (.long vv), .second, iv ix, s4, s5] [])) t := by
  intro t kt
  refine G5 _ ?_
  refine XS.icmpNo X4.here hx rfl (hb hby d13_75) rfl (flt hc75_6).1 ?_
  refine XS.iload X4.here hx rfl (hb hby d13_78) rfl ?_
  refine XS.bipush X4.here hx rfl (hb hby d13_80) ?_
  exact kt
 have hc82_8 : ¬ ((57 : Int32) < dg) := h57
 obtain ⟨T9, X9, e9, st9⟩ := getS2 X4 hx hZ hown (host := "") (Or.inl (hq hw 112 rfl)) Via.refl eh4 (SM.1.ext O0.2) (g := (mkF m 107 #[rv r0, .val (.long vv), .second, iv ix, iv dg, iv (dg - (48 : Int32))] [(.long vv)])) rfl (hb hby d13_107)
 obtain ⟨_, _, ⟨T10, L10, k10, n10⟩, -, X10, ⟨Lc10, hQ10, l10, y10, z10⟩, st10⟩ := Jvm.LawKit.callS X9 hx (y := (⟨"java/lang/Long", "compareUnsigned", "(JJ)I"⟩ : MethodName)) hown (mvT hZ (hq hw 114 rfl)) (mvT hZ (hq hw 115 rfl)) (mvT hZ (hq hw 36 rfl)) (mvT hZ (hq hw 116 rfl)) (by decide) (backOf (W := 0) (rm23 l Z a0 hw [] vv (1844674407370955161 : Int64)  h0 n0 Z0 ) hZ (hq hw 116 rfl) (hq hw 36 rfl) (by decide) (by decide)) (g := (mkF m 110 #[rv r0, .val (.long vv), .second, iv ix, iv dg, iv (dg - (48 : Int32))] [(.long (1844674407370955161 : Int64)), (.long vv)])) rfl (by rw [hml]; rfl) (argsL := [(.long vv), (.long (1844674407370955161 : Int64))]) (rest := []) (lenOf pd_7 rfl) rfl (by show 2 * 0 + _ ≤ _; exact Nat.le_of_eq rfl) (hb hby d13_110) (fun _ _ => ⟨rfl, e9, hce, hsl⟩)
 dsimp only [Pt.U, Pt.locs, Pt.cells, Pt.slots] at X10 l10 y10 z10 st10 hQ10
 subst l10 y10 z10
 obtain ⟨rfl, N10q, eh10⟩ := hQ10
 have N10 := Fr.app N4 N10q
 have G11 : ∀ t, Steps p.tables e below (T10.setTop (mkF m 113 #[rv r0, .val (.long vv), .second, iv ix, iv dg, iv (dg - (48 : Int32))] [(.int (fcu vv (1844674407370955161 : Int64)))])) t → Steps p.tables e below (T0.setTop (mkF m 56 #[rv r0, .val (.long vv), .second, iv ix, s4, s5] [])) t := by
  intro t kt
  refine G7 _ ?_
  refine XS.icmpYes X4.here hx rfl (pc0 := 82) (pc' := 99) rfl (hb hby d13_82) rfl (flt hc82_8).2.2.2 (by decide) (by decide) ?_
  refine XS.iload X4.here hx rfl (hb hby d13_99) rfl ?_
  refine XS.bipush X4.here hx rfl (hb hby d13_101) ?_
  refine XS.isub X4.here hx rfl (hb hby d13_103) rfl ?_
  refine XS.istore X4.here hx rfl (hb hby d13_104) rfl (l' := #[rv r0, .val (.long vv), .second, iv ix, iv dg, iv (dg - (48 : Int32))]) (XS.store1 (o := s5) rfl hs5 rfl) ?_
  refine XS.lloadN X4.here hx rfl (hb hby d13_106) rfl ?_
  refine st9 _ ?_
  refine st10 _ ?_
  exact kt
 have hc113_12 : ¬ ((0 : Int32) < (fcu vv (1844674407370955161 : Int64))) := hcu
 obtain ⟨T13, X13, e13, st13⟩ := getS2 X10 hx hZ hown (host := "") (Or.inl (hq hw 112 rfl)) Via.refl eh10 (SM.1.ext O0.2) (g := (mkF m 117 #[rv r0, .val (.long vv), .second, iv ix, iv dg, iv (dg - (48 : Int32))] [(.long vv)])) rfl (hb hby d13_117)
 have G14 : ∀ t, Steps p.tables e below (T13.setTop (mkF m 121 #[rv r0, .val (.long vv), .second, iv ix, iv dg, iv (dg - (48 : Int32))] [(.int (lcmpW vv (1844674407370955161 : Int64)))])) t → Steps p.tables e below (T0.setTop (mkF m 56 #[rv r0, .val (.long vv), .second, iv ix, s4, s5] [])) t := by
  intro t kt
  refine G11 _ ?_
  refine XS.ifNo X10.here hx rfl (hb hby d13_113) rfl ((if0 _ _).trans (flt hc113_12).2.2.1) ?_
  refine XS.lloadN X10.here hx rfl (hb hby d13_116) rfl ?_
  show Steps p.tables e below (T10.setTop (mkF m 117 #[rv r0, .val (.long vv), .second, iv ix, iv dg, iv (dg - (48 : Int32))] [(.long vv)])) _
  refine st13 _ ?_
  refine XS.lcmp X13.here hx rfl (hb hby d13_120) rfl ?_
  exact kt
 by_cases hc121_15 : vv = (1844674407370955161 : Int64)
 ·skip
  obtain ⟨T16, X16, e16, st16⟩ := getS2 X13 hx hZ hown (host := "") (Or.inl (hq hw 267 rfl)) Via.refl e13 (SM.2.ext O0.2) (g := (mkF m 126 #[rv r0, .val (.long vv), .second, iv ix, iv dg, iv (dg - (48 : Int32))] [(.int (dg - (48 : Int32)))])) rfl (hb hby d13_126)
  have G17 : ∀ t, Steps p.tables e below (T16.setTop (mkF m 129 #[rv r0, .val (.long vv), .second, iv ix, iv dg, iv (dg - (48 : Int32))] [(.int (5 : Int32)), (.int (dg - (48 : Int32)))])) t → Steps p.tables e below (T0.setTop (mkF m 56 #[rv r0, .val (.long vv), .second, iv ix, s4, s5] [])) t := by
   intro t kt
   refine G14 _ ?_
   refine XS.ifNo X13.here hx rfl (hb hby d13_121) rfl ((if0 _ _).trans (teq ((lw_eq _ _).mpr hc121_15)).2) ?_
   refine XS.iload X13.here hx rfl (hb hby d13_124) rfl ?_
   refine st16 _ ?_
   exact kt
  have hc129_18 : ¬ ((5 : Int32) < (dg - (48 : Int32))) := h5 hc121_15
  have G19 : ∀ t, Steps p.tables e below (T16.setTop (mkF m 56 #[rv r0, .val (.long ((vv * (10 : Int64)) + ((dg - (48 : Int32)).toInt64))), .second, iv (ix + (1 : Int32)), iv dg, iv (dg - (48 : Int32))] [])) t → Steps p.tables e below (T0.setTop (mkF m 56 #[rv r0, .val (.long vv), .second, iv ix, s4, s5] [])) t := by
   intro t kt
   refine G17 _ ?_
   refine XS.icmpYes X16.here hx rfl (pc0 := 129) (pc' := 151) rfl (hb hby d13_129) rfl (flt hc129_18).2.2.2 (by decide) (by decide) ?_
   refine XS.lloadN X16.here hx rfl (hb hby d13_151) rfl ?_
   refine X16.ldc2Long hx hown (mvT hZ (hq hw 121 rfl)) (g := (mkF m 152 #[rv r0, .val (.long vv), .second, iv ix, iv dg, iv (dg - (48 : Int32))] [(.long vv)])) rfl (hb hby d13_152) _ ?_
   refine XS.lmul X16.here hx rfl (hb hby d13_155) rfl ?_
   refine XS.iload X16.here hx rfl (hb hby d13_156) rfl ?_
   refine XS.i2l X16.here hx rfl (hb hby d13_158) rfl ?_
   refine XS.ladd X16.here hx rfl (hb hby d13_159) rfl ?_
   refine XS.lstoreN X16.here hx rfl (hb hby d13_160) rfl (l' := #[rv r0, .val (.long ((vv * (10 : Int64)) + ((dg - (48 : Int32)).toInt64))), .second, iv ix, iv dg, iv (dg - (48 : Int32))]) rfl ?_
   refine XS.iinc X16.here hx rfl (hb hby d13_161) rfl (l' := #[rv r0, .val (.long ((vv * (10 : Int64)) + ((dg - (48 : Int32)).toInt64))), .second, iv (ix + (1 : Int32)), iv dg, iv (dg - (48 : Int32))]) rfl ?_
   refine XS.goto X16.here hx rfl (pc0 := 164) (pc' := 56) rfl (hb hby d13_164) (by decide) (by decide) ?_
   exact kt
  exact ⟨_, _, X16, e16, N10, G19⟩
 ·skip
  have G20 : ∀ t, Steps p.tables e below (T13.setTop (mkF m 56 #[rv r0, .val (.long ((vv * (10 : Int64)) + ((dg - (48 : Int32)).toInt64))), .second, iv (ix + (1 : Int32)), iv dg, iv (dg - (48 : Int32))] [])) t → Steps p.tables e below (T0.setTop (mkF m 56 #[rv r0, .val (.long vv), .second, iv ix, s4, s5] [])) t := by
   intro t kt
   refine G14 _ ?_
   refine XS.ifYes X13.here hx rfl (pc0 := 121) (pc' := 151) rfl (hb hby d13_121) rfl ((if0 _ _).trans (feq (fun q => hc121_15 ((lw_eq _ _).mp q))).2) (by decide) (by decide) ?_
   refine XS.lloadN X13.here hx rfl (hb hby d13_151) rfl ?_
   refine X13.ldc2Long hx hown (mvT hZ (hq hw 121 rfl)) (g := (mkF m 152 #[rv r0, .val (.long vv), .second, iv ix, iv dg, iv (dg - (48 : Int32))] [(.long vv)])) rfl (hb hby d13_152) _ ?_
   refine XS.lmul X13.here hx rfl (hb hby d13_155) rfl ?_
   refine XS.iload X13.here hx rfl (hb hby d13_156) rfl ?_
   refine XS.i2l X13.here hx rfl (hb hby d13_158) rfl ?_
   refine XS.ladd X13.here hx rfl (hb hby d13_159) rfl ?_
   refine XS.lstoreN X13.here hx rfl (hb hby d13_160) rfl (l' := #[rv r0, .val (.long ((vv * (10 : Int64)) + ((dg - (48 : Int32)).toInt64))), .second, iv ix, iv dg, iv (dg - (48 : Int32))]) rfl ?_
   refine XS.iinc X13.here hx rfl (hb hby d13_161) rfl (l' := #[rv r0, .val (.long ((vv * (10 : Int64)) + ((dg - (48 : Int32)).toInt64))), .second, iv (ix + (1 : Int32)), iv dg, iv (dg - (48 : Int32))]) rfl ?_
   refine XS.goto X13.here hx rfl (pc0 := 164) (pc' := 56) rfl (hb hby d13_164) (by decide) (by decide) ?_
   exact kt
  exact ⟨_, _, X13, e13, N10, G20⟩
set_option maxRecDepth 65536 in
set_option maxHeartbeats 40000000 in
theorem own_gone {p : Program} {l : Launch} {e : Env} {s : State} {m : MethodId} {args : Array Value} {below : List Frame} {meth : Method} {c : Code} {T0 : State} {locs : List Loc} {cells slots : Nat} {Z : State} {a0 : Array Value} {h0 : Heap} {n0 : Nat} (r0 ta : Addr) (kk : ClassId) (nn : Int32) (vs : List Value) (vv : Int64) (ix dg : Int32) (s4 s5 : Slot) (cst : Int32) (fv : Value)
  (X0 : Stand p l e ({ frames := 8, cells := 4, slots := 64, locals := 150 } : Room) s m args below meth c T0 locs cells slots) (hx : p.tables.exec = Jvm.exec) (hZ : Z.Warmed39 s.vm) (hw : ∀ d ∈ tables_1, d.before a0 Z = true) (hby : c.code = prog_8_method_3_code) (hml : c.maxLocals = 6) (hown : s.vm.findClass "com/example/fides/fides/HybridTimestamp" = some m.cls) (e0 : T0.heap = h0) (N0 : Fr n0 locs) (Z0 : n0 ≤ h0.size) (Ey : Exa Z h0 r0 "java/lang/String") (Fcy : Fld Z h0 r0 "java/lang/String" "coder" "B" (.int (0 : Int32))) (Fvy : Fld Z h0 r0 "java/lang/String" "value" "[B" (.ref ta)) (V0 : Arv Z h0 ta kk .byte nn vs (.int (0 : Int32))) (O0 : Old Z n0 h0) (hce : cells ≤ ({ frames := 8, cells := 4, slots := 64, locals := 150 } : Room).cells) (hsl : slots ≤ ({ frames := 8, cells := 4, slots := 64, locals := 150 } : Room).slots) (hge : ¬ (ix < nn)) (SS : Sts Z cst fv) :
  ∃ (T' : State) (L' : List Loc), Stand p l e ({ frames := 8, cells := 4, slots := 64, locals := 150 } : Room) s m args below meth c T' L' cells slots ∧ T'.heap = h0 ∧ Fr n0 L' ∧ ∀ t, Steps p.tables e below (T'.setTop (mkF m 167 #[rv r0, .val (.long vv), .second, .val (.int ix), s4, s5] [])) t → Steps p.tables e below (T0.setTop (mkF m 56 #[rv r0, .val (.long vv), .second, iv ix, s4, s5] [])) t := by
 have kp0 : Keep h0 h0 [] := Keep.refl _ _
 have G0 : ∀ t, Steps p.tables e below (T0.setTop (mkF m 56 #[rv r0, .val (.long vv), .second, iv ix, s4, s5] [])) t → Steps p.tables e below (T0.setTop (mkF m 56 #[rv r0, .val (.long vv), .second, iv ix, s4, s5] [])) t := fun t k => k
 obtain ⟨cq1, kq1, q1a, q1b, q1c⟩ := isOf hZ e0 Ey
 obtain ⟨_, _, ⟨T1, L1, k1, n1⟩, -, X1, ⟨Lc1, hQ1, l1, y1, z1⟩, st1⟩ := X0.virtualBack hx (y := (⟨"java/lang/String", "length", "()I"⟩ : MethodName)) (z := (⟨"java/lang/String", "length", "()I"⟩ : MethodName)) hown (mvT hZ (hq hw 79 rfl)) (mvT hZ (hq hw 80 rfl)) (notFace_of_selects (args := #[]) (mvT hZ (hq hw 82 rfl))) (mvT hZ (hq hw 82 rfl)) (mvT hZ (hq hw 81 rfl)) (by decide) (backOf (W := 1) (rm16 l Z a0 hw [] r0 (0 : Int32) ta kk nn vs nn cst fv h0 n0 Z0 Ey Fcy Fvy V0 O0 (own_len _) SS) hZ (hq hw 83 rfl) (hq hw 6 rfl) (by decide) (by decide)) q1a q1c (g := (mkF m 58 #[rv r0, .val (.long vv), .second, iv ix, s4, s5] [(.ref r0), (.int ix)])) rfl (by rw [hml]; rfl) (Steps.refl _) (argsL := []) (rest := [(.int ix)]) (lenOf pd_19 rfl) rfl (by show 2 * 0 + _ ≤ _; exact Nat.le_of_eq rfl) (hb hby d13_58) (fun _ _ => ⟨rfl, e0, hce, hsl⟩)
 dsimp only [Pt.U, Pt.locs, Pt.cells, Pt.slots] at X1 l1 y1 z1 st1 hQ1
 subst l1 y1 z1
 obtain ⟨rfl, N1q, eh1⟩ := hQ1
 have N1 := Fr.app N0 N1q
 have G2 : ∀ t, Steps p.tables e below (T1.setTop (mkF m 61 #[rv r0, .val (.long vv), .second, iv ix, s4, s5] [(.int nn), (.int ix)])) t → Steps p.tables e below (T0.setTop (mkF m 56 #[rv r0, .val (.long vv), .second, iv ix, s4, s5] [])) t := by
  intro t kt
  refine G0 _ ?_
  refine XS.iloadN X0.here hx rfl (hb hby d13_56) rfl ?_
  refine XS.aloadN X0.here hx rfl (hb hby d13_57) rfl rfl ?_
  refine st1.trans ?_
  exact kt
 have hc61_3 : ¬ (ix < nn) := hge
 have G4 : ∀ t, Steps p.tables e below (T1.setTop (mkF m 167 #[rv r0, .val (.long vv), .second, iv ix, s4, s5] [])) t → Steps p.tables e below (T0.setTop (mkF m 56 #[rv r0, .val (.long vv), .second, iv ix, s4, s5] [])) t := by
  intro t kt
  refine G2 _ ?_
  refine XS.icmpYes X1.here hx rfl (pc0 := 61) (pc' := 167) rfl (hb hby d13_61) rfl (flt hc61_3).2.1 (by decide) (by decide) ?_
  exact kt
 exact ⟨_, _, X1, eh1, N1, G4⟩
set_option maxHeartbeats 4000000 in
theorem own_loop {p : Program} {l : Launch} {e : Env} {s : State} {m : MethodId} {args : Array Value} {below : List Frame} {meth : Method} {c : Code} {cells slots : Nat} {Z : State} {a0 : Array Value} {h0 : Heap} {n0 : Nat} (r0 ta : Addr) (kk : ClassId) (len N : Nat) (cst : Int32) (fv : Value)
    (hx : p.tables.exec = Jvm.exec) (hZ : Z.Warmed39 s.vm) (hw : ∀ d ∈ tables_1, d.before a0 Z = true) (hby : c.code = prog_8_method_3_code) (hml : c.maxLocals = 6) (hown : s.vm.findClass "com/example/fides/fides/HybridTimestamp" = some m.cls) (Z0 : n0 ≤ h0.size) (Ey : Exa Z h0 r0 "java/lang/String") (Fcy : Fld Z h0 r0 "java/lang/String" "coder" "B" (.int (0 : Int32))) (Fvy : Fld Z h0 r0 "java/lang/String" "value" "[B" (.ref ta)) (V0 : Arv Z h0 ta kk .byte (Int32.ofNat len) (own_ds len N) (.int (0 : Int32))) (O0 : Old Z n0 h0) (hce : cells ≤ ({ frames := 8, cells := 4, slots := 64, locals := 150 } : Room).cells) (hsl : slots ≤ ({ frames := 8, cells := 4, slots := 64, locals := 150 } : Room).slots) (hln : own_ln len N) (hN : N < 18446744073709551616) (SM : own_SM Z) (SS : Sts Z cst fv) :
    ∀ (k i : Nat) (s4 s5 : Slot) (T0 : State) (locs : List Loc), i + k = len → One s4 → One s5 → Stand p l e ({ frames := 8, cells := 4, slots := 64, locals := 150 } : Room) s m args below meth c T0 locs cells slots → T0.heap = h0 → Fr n0 locs →
      ∃ (T' : State) (L' : List Loc) (s4' s5' : Slot), Stand p l e ({ frames := 8, cells := 4, slots := 64, locals := 150 } : Room) s m args below meth c T' L' cells slots ∧ T'.heap = h0 ∧ Fr n0 L' ∧
        ∀ t, Steps p.tables e below (T'.setTop (mkF m 167 #[rv r0, .val (.long (Int64.ofNat N)), .second, .val (.int (Int32.ofNat len)), s4', s5'] [])) t → Steps p.tables e below (T0.setTop (mkF m 56 #[rv r0, .val (.long (Int64.ofNat (N / 10 ^ (len - i)))), .second, .val (.int (Int32.ofNat i)), s4, s5] [])) t
  | 0, i, s4, s5, T0, locs, hi, h4, h5, X0, e0, N0 => by
    have ei : i = len := by omega
    subst ei
    obtain ⟨T', L', X', e', N', st⟩ := own_gone (l := l) (Z := Z) (a0 := a0) r0 ta kk (Int32.ofNat i) (own_ds i N) (Int64.ofNat (N / 10 ^ (i - i))) (Int32.ofNat i) 0 s4 s5 cst fv X0 hx hZ hw hby hml hown e0 N0 Z0 Ey Fcy Fvy V0 O0 hce hsl (by rw [Int32.lt_iff_toInt_lt]; omega) SS
    refine ⟨T', L', s4, s5, X', e', N', fun t kt => st t ?_⟩
    rw [Nat.sub_self, Nat.pow_zero, Nat.div_one]
    exact kt
  | k + 1, i, s4, s5, T0, locs, hi, h4, h5, X0, e0, N0 => by
    have hil : i < len := by omega
    have hl20 := hln.2.2.2
    have oi := own_ofn (k := i) (by omega)
    have db := own_dgb len N i
    have k48 : (48 : Int32).toInt = 48 := by decide
    have k57 : (57 : Int32).toInt = 57 := by decide
    obtain ⟨T1, L1, X1, e1, N1, st1⟩ := own_turn (l := l) (Z := Z) (a0 := a0) r0 ta kk (Int32.ofNat len) (own_ds len N) (Int64.ofNat (N / 10 ^ (len - i))) (Int32.ofNat i) (own_dg len N i) s4 s5 cst fv X0 hx hZ hw hby hml hown e0 N0 Z0 Ey Fcy Fvy V0 O0 hce hsl h4 h5 (own_ilt hil hl20) oi.2.1 (by rw [oi.1, own_ds_get _ _ _ _ hil]; rfl) (own_chd len N i)
      (by rw [Int32.lt_iff_toInt_lt, k48]; omega) (by rw [Int32.lt_iff_toInt_lt, k57]; omega) (own_cu (own_vle len N i hil hN)) (fun q => own_h5 hil hN q) SM SS
    obtain ⟨T2, L2, s4', s5', X2, e2, N2, st2⟩ := own_loop r0 ta kk len N cst fv hx hZ hw hby hml hown Z0 Ey Fcy Fvy V0 O0 hce hsl hln hN SM SS k (i + 1) _ _ T1 L1 (by omega) (One.val (w := .int (own_dg len N i)) rfl) (One.val (w := .int (own_dg len N i - (48 : Int32))) rfl) X1 e1 N1
    refine ⟨T2, L2, s4', s5', X2, e2, N2, fun t kt => st1 t ?_⟩
    rw [own_stepv len N i hil, own_inn]
    exact st2 t kt
theorem d13_0 : decode prog_8_method_3_code 0 = .ok (.aload_n 0, 1) := by decide +kernel
theorem d13_1 : decode prog_8_method_3_code 1 = .ok (.ldc 28, 2) := by decide +kernel
theorem d13_3 : decode prog_8_method_3_code 3 = .ok (.invokestatic 30, 3) := by decide +kernel
theorem pd_33 : parseMethodDescriptor "(Ljava/lang/Object;Ljava/lang/String;)Ljava/lang/Object;" = some ⟨[(.object "java/lang/Object"), (.object "java/lang/String")], some (.object "java/lang/Object")⟩ := by decide +kernel
theorem d13_6 : decode prog_8_method_3_code 6 = .ok (.pop, 1) := by decide +kernel
theorem d13_7 : decode prog_8_method_3_code 7 = .ok (.aload_n 0, 1) := by decide +kernel
theorem d13_8 : decode prog_8_method_3_code 8 = .ok (.invokevirtual 36, 3) := by decide +kernel
theorem d13_11 : decode prog_8_method_3_code 11 = .ok (.ifCond .eq 13, 3) := by decide +kernel
theorem d13_24 : decode prog_8_method_3_code 24 = .ok (.aload_n 0, 1) := by decide +kernel
theorem d13_25 : decode prog_8_method_3_code 25 = .ok (.invokevirtual 49, 3) := by decide +kernel
theorem d13_28 : decode prog_8_method_3_code 28 = .ok (.iconst 1, 1) := by decide +kernel
theorem d13_29 : decode prog_8_method_3_code 29 = .ok (.if_icmp .le 23, 3) := by decide +kernel
theorem d13_32 : decode prog_8_method_3_code 32 = .ok (.aload_n 0, 1) := by decide +kernel
theorem d13_33 : decode prog_8_method_3_code 33 = .ok (.iconst 0, 1) := by decide +kernel
theorem d13_34 : decode prog_8_method_3_code 34 = .ok (.invokevirtual 53, 3) := by decide +kernel
theorem d13_37 : decode prog_8_method_3_code 37 = .ok (.bipush 48, 2) := by decide +kernel
theorem d13_39 : decode prog_8_method_3_code 39 = .ok (.if_icmp .ne 13, 3) := by decide +kernel
theorem d13_52 : decode prog_8_method_3_code 52 = .ok (.lconst 0, 1) := by decide +kernel
theorem d13_53 : decode prog_8_method_3_code 53 = .ok (.lstore_n 1, 1) := by decide +kernel
theorem d13_54 : decode prog_8_method_3_code 54 = .ok (.iconst 0, 1) := by decide +kernel
theorem d13_55 : decode prog_8_method_3_code 55 = .ok (.istore_n 3, 1) := by decide +kernel
theorem d13_167 : decode prog_8_method_3_code 167 = .ok (.new 1, 3) := by decide +kernel
theorem d13_170 : decode prog_8_method_3_code 170 = .ok (.dup, 1) := by decide +kernel
theorem d13_171 : decode prog_8_method_3_code 171 = .ok (.lload_n 1, 1) := by decide +kernel
theorem d13_172 : decode prog_8_method_3_code 172 = .ok (.invokespecial 25, 3) := by decide +kernel
theorem d13_175 : decode prog_8_method_3_code 175 = .ok (.areturn, 1) := by decide +kernel
def Q13 (Z : State) (r0 : Addr) (ta : Addr) (kk : ClassId) (len N : Nat) (cst : Int32) (fv : Value) (h0 : Heap) (n0 : Nat) (v : Option Value) (h : Heap) (L : List Loc) : Prop := ∃ b : Addr, v = some (.ref b) ∧ Fr n0 L ∧ Keep h0 h [] ∧ Exa Z h b "com/example/fides/fides/HybridTimestamp" ∧ Fld Z h b "com/example/fides/fides/HybridTimestamp" "bits" "J" (.long (Int64.ofNat N))
theorem ef_rm13 (m : MethodId) (x0 : Addr) : entryFrame m #[(.ref x0)] 6 = mkF m 0 #[.val (.ref x0), .unset, .unset, .unset, .unset, .unset] [] := by first | (simp [entryFrame, mkF, argsToLocals, Value.category]; done) | rfl
set_option maxRecDepth 65536 in
set_option maxHeartbeats 40000000 in
theorem rm13 (l : Launch) (Z : State) (a0 : Array Value) (hw : ∀ d ∈ tables_1, d.before a0 Z = true) (ws : List Jvm.Cond) (r0 : Addr) (ta : Addr) (kk : ClassId) (len N : Nat) (cst : Int32) (fv : Value) (h0 : Heap) (n0 : Nat) (Z0 : n0 ≤ h0.size) (Ey : Exa Z h0 r0 "java/lang/String") (Fcy : Fld Z h0 r0 "java/lang/String" "coder" "B" (.int (0 : Int32))) (Fvy : Fld Z h0 r0 "java/lang/String" "value" "[B" (.ref ta)) (V0 : Arv Z h0 ta kk .byte (Int32.ofNat len) (own_ds len N) (.int (0 : Int32))) (O0 : Old Z n0 h0) (hln : own_ln len N) (hN : N < 18446744073709551616) (SM : own_SM Z) (SS : Sts Z cst fv) :
  MetFree l (⟨"com/example/fides/fides/HybridTimestamp", "parse", "(Ljava/lang/String;)Lcom/example/fides/fides/HybridTimestamp;"⟩ : MethodName) (head1 (Jvm.Cond.code (⟨"com/example/fides/fides/HybridTimestamp", "parse", "(Ljava/lang/String;)Lcom/example/fides/fides/HybridTimestamp;"⟩ : MethodName) prog_8_method_3_code 6 (some (.object "com/example/fides/fides/HybridTimestamp")) :: ws) ({ frames := 8, cells := 4, slots := 64, locals := 150 } : Room)) (fun a U => a = #[(.ref r0)] ∧ Z.Warmed39 U.vm ∧ U.heap = h0) (fun _ _ _ _ _ => True) (fun _ U o U' => ∃ v L, o = .returned v ∧ Q13 Z r0 ta kk len N cst fv h0 n0 v U'.heap L ∧ ReturnedEndW U o U' L ({ frames := 8, cells := 4, slots := 64, locals := 150 } : Room).cells ({ frames := 8, cells := 4, slots := 64, locals := 150 } : Room).slots) := by
 refine MetFree.of_bodySF (plainFor_of_name pnc_com_example_fides_fides_HybridTimestamp) hisR ?_
 intro p e s m args below meth c s₁ Bd hml0 hP hK
 obtain ⟨rfl, hZ, hh⟩ := hP
 have hx := Bd.exec
 have hby := Bd.bytes
 have hml : c.maxLocals = 6 := hml0
 have hown : s.vm.findClass "com/example/fides/fides/HybridTimestamp" = some m.cls := findClass_of_methodNamed Bd.named
 have hnm := (name_of_methodNamed Bd.named Bd.method).1
 have X0 : Stand p l e ({ frames := 8, cells := 4, slots := 64, locals := 150 } : Room) s m #[(.ref r0)] below meth c s₁ [] 0 0 := Stand.of_body Bd
 have e0 : s₁.heap = h0 := by rw [← hh, Bd.state]; rfl
 have N0 := Fr.nil n0
 have kp0 : Keep h0 h0 [] := Keep.refl _ _
 have G0 : ∀ t, Steps p.tables e below (s₁.setTop (mkF m 0 #[rv r0, .unset, .unset, .unset, .unset, .unset] [])) t → Steps p.tables e below (s₁.setTop (entryFrame m #[(.ref r0)] 6)) t := fun t k => castTop (ef_rm13 m r0) k
 have X0 : Stand p l e ({ frames := 8, cells := 4, slots := 64, locals := 150 } : Room) (s.setVm s.vm) m #[(.ref r0)] below meth c s₁ [] 0 0 := X0
 have hZ : Z.Warmed39 (s.setVm s.vm).vm := hZ
 have hown : (s.setVm s.vm).vm.findClass "com/example/fides/fides/HybridTimestamp" = some m.cls := hown
 have hS : s.Since s.vm 0 := (State.WarmedH.refl s).since 0
 have hk : 0 ≤ h0.size := Nat.zero_le _
 have oln := own_ofn (k := len) (by have := hln.2.2.2; omega)
 have hnz : ¬ ((Int32.ofNat len) = (0 : Int32)) := fun q => by have z := congrArg Int32.toInt q; rw [oln.2.2, show (0 : Int32).toInt = 0 by decide] at z; have := hln.2.2.1; omega
 have G1 : ∀ t, Steps p.tables e below (s₁.setTop (mkF m 1 #[rv r0, .unset, .unset, .unset, .unset, .unset] [(.ref r0)])) t → Steps p.tables e below (s₁.setTop (entryFrame m #[(.ref r0)] 6)) t := by
  intro t kt
  refine G0 _ ?_
  refine XS.aloadN X0.here hx rfl (hb hby d13_0) rfl rfl ?_
  exact kt
 obtain ⟨a2, T2, h2, k2, X2, e2, E2, hS, hk, hZ, hown, st2⟩ := ldcS (s := s) X0 hx hZ hown (hq hw 69 rfl) (fun d hd => hw d (own_satoms d hd)) e0 hS hk (g := (mkF m 1 #[rv r0, .unset, .unset, .unset, .unset, .unset] [(.ref r0)])) rfl (hb hby d13_1) (n := 16) (by decide) (by decide) (by decide) (by decide)
 have fa3 := Ey.ext E2
 have fa4 := Fcy.ext E2
 have fa5 := Fvy.ext E2
 have fa6 := V0.ext E2
 have fa7 := O0.ext E2
 have z8 : n0 ≤ h2.size := Nat.le_trans Z0 E2.1
 have kp9 : Keep h0 h2 [] := kp0.ext E2
 have G10 : ∀ t, Steps p.tables e below (T2.setTop (mkF m 3 #[rv r0, .unset, .unset, .unset, .unset, .unset] [(.ref a2), (.ref r0)])) t → Steps p.tables e below (s₁.setTop (entryFrame m #[(.ref r0)] 6)) t := by
  intro t kt
  refine G1 _ ?_
  refine st2 _ ?_
  exact kt
 obtain ⟨_, _, ⟨T11, L11, k11, n11⟩, -, X11, ⟨Lc11, hQ11, l11, y11, z11⟩, st11⟩ := Jvm.LawKit.callS X2 hx (y := (⟨"java/util/Objects", "requireNonNull", "(Ljava/lang/Object;Ljava/lang/String;)Ljava/lang/Object;"⟩ : MethodName)) hown (mvT hZ (hq hw 70 rfl)) (mvT hZ (hq hw 71 rfl)) (mvT hZ (hq hw 72 rfl)) (mvT hZ (hq hw 73 rfl)) (by decide) (backOf (W := 0) (rm14 l Z a0 hw [] r0 a2  h2 n0 z8 ) hZ (hq hw 73 rfl) (hq hw 72 rfl) (by decide) (by decide)) (g := (mkF m 3 #[rv r0, .unset, .unset, .unset, .unset, .unset] [(.ref a2), (.ref r0)])) rfl (by rw [hml]; rfl) (argsL := [(.ref r0), (.ref a2)]) (rest := []) (lenOf pd_33 rfl) rfl (by show 2 * 0 + _ ≤ _; exact Nat.le_of_eq rfl) (hb hby d13_3) (fun _ _ => ⟨rfl, e2, (by decide : 2 + 0 ≤ _), (by decide : 20 + 0 ≤ _)⟩)
 dsimp only [Pt.U, Pt.locs, Pt.cells, Pt.slots] at X11 l11 y11 z11 st11 hQ11
 subst l11 y11 z11
 obtain ⟨rfl, N11q, eh11⟩ := hQ11
 have N11 := Fr.app N0 N11q
 have G12 : ∀ t, Steps p.tables e below (T11.setTop (mkF m 8 #[rv r0, .unset, .unset, .unset, .unset, .unset] [(.ref r0)])) t → Steps p.tables e below (s₁.setTop (entryFrame m #[(.ref r0)] 6)) t := by
  intro t kt
  refine G10 _ ?_
  refine st11 _ ?_
  refine XS.pop X11.here hx rfl (hb hby d13_6) rfl rfl ?_
  refine XS.aloadN X11.here hx rfl (hb hby d13_7) rfl rfl ?_
  exact kt
 obtain ⟨cq13, kq13, q13a, q13b, q13c⟩ := isOf hZ eh11 fa3
 obtain ⟨_, _, ⟨T13, L13, k13, n13⟩, -, X13, ⟨Lc13, hQ13, l13, y13, z13⟩, st13⟩ := X11.virtualBack hx (y := (⟨"java/lang/String", "isEmpty", "()Z"⟩ : MethodName)) (z := (⟨"java/lang/String", "isEmpty", "()Z"⟩ : MethodName)) hown (mvT hZ (hq hw 74 rfl)) (mvT hZ (hq hw 75 rfl)) (notFace_of_selects (args := #[]) (mvT hZ (hq hw 77 rfl))) (mvT hZ (hq hw 77 rfl)) (mvT hZ (hq hw 76 rfl)) (by decide) (backOf (W := 0) (rm15 l Z a0 hw [] r0 ta kk (Int32.ofNat len) (own_ds len N) cst fv h2 n0 z8 fa5 fa6 fa7 hnz SS) hZ (hq hw 78 rfl) (hq hw 6 rfl) (by decide) (by decide)) q13a q13c (g := (mkF m 8 #[rv r0, .unset, .unset, .unset, .unset, .unset] [(.ref r0)])) rfl (by rw [hml]; rfl) (Steps.refl _) (argsL := []) (rest := []) (lenOf pd_3 rfl) rfl (by show 2 * 0 + _ ≤ _; exact Nat.le_of_eq rfl) (hb hby d13_8) (fun _ _ => ⟨rfl, eh11, (by decide : 2 + 0 ≤ _), (by decide : 20 + 0 ≤ _)⟩)
 dsimp only [Pt.U, Pt.locs, Pt.cells, Pt.slots] at X13 l13 y13 z13 st13 hQ13
 subst l13 y13 z13
 obtain ⟨rfl, N13q, eh13⟩ := hQ13
 have N13 := Fr.app N11 N13q
 have G14 : ∀ t, Steps p.tables e below (T13.setTop (mkF m 11 #[rv r0, .unset, .unset, .unset, .unset, .unset] [(.int (0 : Int32))])) t → Steps p.tables e below (s₁.setTop (entryFrame m #[(.ref r0)] 6)) t := by
  intro t kt
  refine G12 _ ?_
  refine st13.trans ?_
  exact kt
 have G15 : ∀ t, Steps p.tables e below (T13.setTop (mkF m 25 #[rv r0, .unset, .unset, .unset, .unset, .unset] [(.ref r0)])) t → Steps p.tables e below (s₁.setTop (entryFrame m #[(.ref r0)] 6)) t := by
  intro t kt
  refine G14 _ ?_
  refine XS.ifYes X13.here hx rfl (pc0 := 11) (pc' := 24) rfl (hb hby d13_11) rfl ((if0 _ _).trans (teq (by decide)).1) (by decide) (by decide) ?_
  refine XS.aloadN X13.here hx rfl (hb hby d13_24) rfl rfl ?_
  exact kt
 obtain ⟨cq16, kq16, q16a, q16b, q16c⟩ := isOf hZ eh13 fa3
 obtain ⟨_, _, ⟨T16, L16, k16, n16⟩, -, X16, ⟨Lc16, hQ16, l16, y16, z16⟩, st16⟩ := X13.virtualBack hx (y := (⟨"java/lang/String", "length", "()I"⟩ : MethodName)) (z := (⟨"java/lang/String", "length", "()I"⟩ : MethodName)) hown (mvT hZ (hq hw 79 rfl)) (mvT hZ (hq hw 80 rfl)) (notFace_of_selects (args := #[]) (mvT hZ (hq hw 82 rfl))) (mvT hZ (hq hw 82 rfl)) (mvT hZ (hq hw 81 rfl)) (by decide) (backOf (W := 0) (rm16 l Z a0 hw [] r0 (0 : Int32) ta kk (Int32.ofNat len) (own_ds len N) (Int32.ofNat len) cst fv h2 n0 z8 fa3 fa4 fa5 fa6 fa7 (own_len _) SS) hZ (hq hw 83 rfl) (hq hw 6 rfl) (by decide) (by decide)) q16a q16c (g := (mkF m 25 #[rv r0, .unset, .unset, .unset, .unset, .unset] [(.ref r0)])) rfl (by rw [hml]; rfl) (Steps.refl _) (argsL := []) (rest := []) (lenOf pd_19 rfl) rfl (by show 2 * 0 + _ ≤ _; exact Nat.le_of_eq rfl) (hb hby d13_25) (fun _ _ => ⟨rfl, eh13, (by decide : 2 + 0 ≤ _), (by decide : 20 + 0 ≤ _)⟩)
 dsimp only [Pt.U, Pt.locs, Pt.cells, Pt.slots] at X16 l16 y16 z16 st16 hQ16
 subst l16 y16 z16
 obtain ⟨rfl, N16q, eh16⟩ := hQ16
 have N16 := Fr.app N13 N16q
 have G17 : ∀ t, Steps p.tables e below (T16.setTop (mkF m 29 #[rv r0, .unset, .unset, .unset, .unset, .unset] [(.int (1 : Int32)), (.int (Int32.ofNat len))])) t → Steps p.tables e below (s₁.setTop (entryFrame m #[(.ref r0)] 6)) t := by
  intro t kt
  refine G15 _ ?_
  refine st16.trans ?_
  refine XS.iconst X16.here hx rfl (hb hby d13_28) ?_
  exact kt
 by_cases hc29_18 : (1 : Int32) < (Int32.ofNat len)
 ·skip
  have G19 : ∀ t, Steps p.tables e below (T16.setTop (mkF m 34 #[rv r0, .unset, .unset, .unset, .unset, .unset] [(.int (0 : Int32)), (.ref r0)])) t → Steps p.tables e below (s₁.setTop (entryFrame m #[(.ref r0)] 6)) t := by
   intro t kt
   refine G17 _ ?_
   refine XS.icmpNo X16.here hx rfl (hb hby d13_29) rfl (tlt hc29_18).2.2.2 ?_
   refine XS.aloadN X16.here hx rfl (hb hby d13_32) rfl rfl ?_
   refine XS.iconst X16.here hx rfl (hb hby d13_33) ?_
   exact kt
  obtain ⟨cq20, kq20, q20a, q20b, q20c⟩ := isOf hZ eh16 fa3
  obtain ⟨_, _, ⟨T20, L20, k20, n20⟩, -, X20, ⟨Lc20, hQ20, l20, y20, z20⟩, st20⟩ := X16.virtualBack hx (y := (⟨"java/lang/String", "charAt", "(I)C"⟩ : MethodName)) (z := (⟨"java/lang/String", "charAt", "(I)C"⟩ : MethodName)) hown (mvT hZ (hq hw 90 rfl)) (mvT hZ (hq hw 91 rfl)) (notFace_of_selects (args := #[]) (mvT hZ (hq hw 93 rfl))) (mvT hZ (hq hw 93 rfl)) (mvT hZ (hq hw 92 rfl)) (by decide) (backOf (W := 0) (rmChL l Z a0 hw [] r0 (0 : Int32) ta kk (Int32.ofNat len) (own_ds len N) (own_dg len N 0) (own_dg len N 0) cst fv h2 n0 z8 fa3 fa4 fa5 fa6 fa7 (by decide) (by rw [Int32.lt_iff_toInt_lt, oln.2.2, show (0 : Int32).toInt = 0 by decide]; have := hln.2.2.1; omega) (by rw [show ((0 : Int32)).toNatClampNeg = 0 by decide, own_ds_get _ _ _ _ hln.2.2.1]; rfl) (own_chd len N 0) SS) hZ (hq hw 94 rfl) (hq hw 6 rfl) (by decide) (by decide)) q20a q20c (g := (mkF m 34 #[rv r0, .unset, .unset, .unset, .unset, .unset] [(.int (0 : Int32)), (.ref r0)])) rfl (by rw [hml]; rfl) (Steps.refl _) (argsL := [(.int (0 : Int32))]) (rest := []) (lenOf pd_32 rfl) rfl (by show 2 * 0 + _ ≤ _; exact Nat.le_of_eq rfl) (hb hby d13_34) (fun _ _ => ⟨rfl, eh16, (by decide : 2 + 0 ≤ _), (by decide : 20 + 0 ≤ _)⟩)
  dsimp only [Pt.U, Pt.locs, Pt.cells, Pt.slots] at X20 l20 y20 z20 st20 hQ20
  subst l20 y20 z20
  obtain ⟨rfl, N20q, eh20⟩ := hQ20
  have N20 := Fr.app N16 N20q
  have G21 : ∀ t, Steps p.tables e below (T20.setTop (mkF m 39 #[rv r0, .unset, .unset, .unset, .unset, .unset] [(.int (48 : Int32)), (.int (own_dg len N 0))])) t → Steps p.tables e below (s₁.setTop (entryFrame m #[(.ref r0)] 6)) t := by
   intro t kt
   refine G19 _ ?_
   refine st20.trans ?_
   refine XS.bipush X20.here hx rfl (hb hby d13_37) ?_
   exact kt
  have hc39_22 : ¬ ((own_dg len N 0) = (48 : Int32)) := own_first hln (by have q := hc29_18; rw [Int32.lt_iff_toInt_lt, oln.2.2, show (1 : Int32).toInt = 1 by decide] at q; omega)
  have G23 : ∀ t, Steps p.tables e below (T20.setTop (mkF m 56 #[rv r0, .val (.long (0 : Int64)), .second, iv 0, .unset, .unset] [])) t → Steps p.tables e below (s₁.setTop (entryFrame m #[(.ref r0)] 6)) t := by
   intro t kt
   refine G21 _ ?_
   refine XS.icmpYes X20.here hx rfl (pc0 := 39) (pc' := 52) rfl (hb hby d13_39) rfl (feq hc39_22).2 (by decide) (by decide) ?_
   refine XS.lconst X20.here hx rfl (hb hby d13_52) ?_
   refine XS.lstoreN X20.here hx rfl (hb hby d13_53) rfl (l' := #[rv r0, .val (.long (0 : Int64)), .second, .unset, .unset, .unset]) rfl ?_
   refine XS.iconst X20.here hx rfl (hb hby d13_54) ?_
   refine XS.istoreN X20.here hx rfl (hb hby d13_55) rfl (l' := #[rv r0, .val (.long (0 : Int64)), .second, iv 0, .unset, .unset]) rfl ?_
   exact kt
  obtain ⟨T24, L24, s424, s524, X24, e24, N24, K24⟩ := own_loop (l := l) (Z := Z) (a0 := a0) r0 ta kk len N cst fv hx hZ hw hby hml hown z8 fa3 fa4 fa5 fa6 fa7 (by decide) (by decide) hln hN SM SS len 0 .unset .unset _ _ (Nat.zero_add _) (Or.inl rfl) (Or.inl rfl) X20 eh20 N20
  have G25 : ∀ t, Steps p.tables e below (T24.setTop (mkF m 167 #[rv r0, .val (.long (Int64.ofNat N)), .second, iv (Int32.ofNat len), s424, s524] [])) t → Steps p.tables e below (s₁.setTop (entryFrame m #[(.ref r0)] 6)) t := fun t kt => G23 t (by have q := K24 t kt; rw [← own_v0 hln] at q; exact q)
  obtain ⟨T26, h26, X26, e26, E26, A26, D26, -, st26⟩ := newO X24 hx hZ hown (hq hw 19 rfl) (hq hw 20 rfl) (hq hw 3 rfl) e24 (g := (mkF m 167 #[rv r0, .val (.long (Int64.ofNat N)), .second, iv (Int32.ofNat len), s424, s524] [])) rfl (hb hby d13_167) (by decide) (by decide)
  obtain ⟨b26, g26⟩ : ∃ z, z = h2.size := ⟨_, rfl⟩
  rw [← g26] at A26 D26 st26
  have g_b26 : n0 ≤ b26 := Nat.le_trans z8 (Nat.le_of_eq g26.symm)
  have sz_b26 : h0.size ≤ b26 := Nat.le_trans kp9.1 (Nat.le_of_eq g26.symm)
  have ne_r0_b26 : r0 ≠ b26 := Nat.ne_of_lt (Nat.lt_of_lt_of_le fa3.lt (Nat.le_of_eq g26.symm))
  have ne_ta_b26 : ta ≠ b26 := Nat.ne_of_lt (Nat.lt_of_lt_of_le fa6.lt (Nat.le_of_eq g26.symm))
  have fa27 := fa3.ext E26
  have fa28 := fa4.ext E26
  have fa29 := fa5.ext E26
  have fa30 := fa6.ext E26
  have fa31 := fa7.ext E26
  have z32 : n0 ≤ h26.size := Nat.le_trans z8 E26.1
  have hk := Nat.le_trans hk E26.1
  have kp33 : Keep h0 h26 [] := kp9.ext E26
  have fa34 : Fld Z h26 b26 "com/example/fides/fides/HybridTimestamp" "bits" "J" (.long (0 : Int64)) := D26 (Or.inr (hq hw 28 rfl)) (ty := .long) (by decide)
  have G35 : ∀ t, Steps p.tables e below (T26.setTop (mkF m 172 #[rv r0, .val (.long (Int64.ofNat N)), .second, iv (Int32.ofNat len), s424, s524] [(.long (Int64.ofNat N)), (.ref b26), (.ref b26)])) t → Steps p.tables e below (s₁.setTop (entryFrame m #[(.ref r0)] 6)) t := by
   intro t kt
   refine G25 _ ?_
   refine st26 _ ?_
   refine XS.dup X26.here hx rfl (hb hby d13_170) rfl rfl ?_
   show Steps p.tables e below (T26.setTop (mkF m 171 #[rv r0, .val (.long (Int64.ofNat N)), .second, iv (Int32.ofNat len), s424, s524] [(.ref b26), (.ref b26)])) _
   refine XS.lloadN X26.here hx rfl (hb hby d13_171) rfl ?_
   exact kt
  obtain ⟨_, _, ⟨T36, L36, k36, n36⟩, -, X36, ⟨Lc36, hQ36, l36, y36, z36⟩, st36⟩ := X26.specialBack hx (y := (⟨"com/example/fides/fides/HybridTimestamp", "<init>", "(J)V"⟩ : MethodName)) rfl hown (mvT hZ (hq hw 21 rfl)) (mvT hZ (hq hw 22 rfl)) (mvT hZ (hq hw 23 rfl)) (by decide) (backOf (W := 1) (rm3 l Z a0 hw [] b26 (Int64.ofNat N)  h26 n0 z32 fa34 A26 g_b26) hZ (hq hw 23 rfl) (hq hw 3 rfl) (by decide) (by decide)) (g := (mkF m 172 #[rv r0, .val (.long (Int64.ofNat N)), .second, iv (Int32.ofNat len), s424, s524] [(.long (Int64.ofNat N)), (.ref b26), (.ref b26)])) rfl (by rw [hml]; rfl) (Steps.refl _) (a := b26) (argsL := [(.long (Int64.ofNat N))]) (rest := [(.ref b26)]) (lenOf pd_6 rfl) rfl (by show 2 * 0 + _ ≤ _; exact Nat.le_of_eq rfl) (hb hby d13_172) (fun _ _ => ⟨rfl, e26, (by decide : 3 + 0 ≤ _), (by decide : 21 + 0 ≤ _)⟩)
  dsimp only [Pt.U, Pt.locs, Pt.cells, Pt.slots] at X36 l36 y36 z36 st36 hQ36
  subst l36 y36 z36
  obtain ⟨rfl, N36q, K36, A36, F36_0⟩ := hQ36
  have N36 := Fr.app N24 N36q
  have fa37 := fa27.keep K36
  have fa38 := fa28.keep K36 (ninS ne_r0_b26 nin0)
  have fa39 := fa29.keep K36 (ninS ne_r0_b26 nin0)
  have fa40 := fa30.keep K36 (ninS ne_ta_b26 nin0)
  have fa41 := fa31.keep K36 (allS g_b26 all0)
  have fa42 := A26.keep K36
  have z43 : n0 ≤ T36.heap.size := Nat.le_trans z32 K36.1
  have hk := Nat.le_trans hk K36.1
  have kp44 : Keep h0 T36.heap [] := kp33.trans K36 (allS (Or.inr sz_b26) all0)
  obtain ⟨fs, hr, hrun, hended, hRW⟩ := X36.leaveW (s := s) hS (by rw [show T36.heap = T36.heap from rfl]; exact hk) (v := some (.ref b26)) (fun h => by rw [Bd.returns] at h; cases h) (BodyLoose.notSynchronized Bd)
  refine ⟨_, _, G35 _ ?_, hrun, hended, _, _, rfl, ?_, hRW.1, hRW.2.1, hRW.2.2.1, hRW.2.2.2.mono (by decide) (by decide)⟩
  ·skip
   refine st36.trans ?_
   exact retOut X36 hx Bd.returns rfl (Or.inr (Or.inr (Or.inr (Or.inr ⟨rfl, rfl, rfl⟩)))) (hb hby d13_175) hr
  ·show Q13 Z r0 ta kk len N cst fv h0 n0 _ T36.heap _
   exact ⟨b26, rfl, N36, kp44, fa42, F36_0⟩
 ·skip
  have G45 : ∀ t, Steps p.tables e below (T16.setTop (mkF m 56 #[rv r0, .val (.long (0 : Int64)), .second, iv 0, .unset, .unset] [])) t → Steps p.tables e below (s₁.setTop (entryFrame m #[(.ref r0)] 6)) t := by
   intro t kt
   refine G17 _ ?_
   refine XS.icmpYes X16.here hx rfl (pc0 := 29) (pc' := 52) rfl (hb hby d13_29) rfl (flt hc29_18).2.2.2 (by decide) (by decide) ?_
   refine XS.lconst X16.here hx rfl (hb hby d13_52) ?_
   refine XS.lstoreN X16.here hx rfl (hb hby d13_53) rfl (l' := #[rv r0, .val (.long (0 : Int64)), .second, .unset, .unset, .unset]) rfl ?_
   refine XS.iconst X16.here hx rfl (hb hby d13_54) ?_
   refine XS.istoreN X16.here hx rfl (hb hby d13_55) rfl (l' := #[rv r0, .val (.long (0 : Int64)), .second, iv 0, .unset, .unset]) rfl ?_
   exact kt
  obtain ⟨T46, L46, s446, s546, X46, e46, N46, K46⟩ := own_loop (l := l) (Z := Z) (a0 := a0) r0 ta kk len N cst fv hx hZ hw hby hml hown z8 fa3 fa4 fa5 fa6 fa7 (by decide) (by decide) hln hN SM SS len 0 .unset .unset _ _ (Nat.zero_add _) (Or.inl rfl) (Or.inl rfl) X16 eh16 N16
  have G47 : ∀ t, Steps p.tables e below (T46.setTop (mkF m 167 #[rv r0, .val (.long (Int64.ofNat N)), .second, iv (Int32.ofNat len), s446, s546] [])) t → Steps p.tables e below (s₁.setTop (entryFrame m #[(.ref r0)] 6)) t := fun t kt => G45 t (by have q := K46 t kt; rw [← own_v0 hln] at q; exact q)
  obtain ⟨T48, h48, X48, e48, E48, A48, D48, -, st48⟩ := newO X46 hx hZ hown (hq hw 19 rfl) (hq hw 20 rfl) (hq hw 3 rfl) e46 (g := (mkF m 167 #[rv r0, .val (.long (Int64.ofNat N)), .second, iv (Int32.ofNat len), s446, s546] [])) rfl (hb hby d13_167) (by decide) (by decide)
  obtain ⟨b48, g48⟩ : ∃ z, z = h2.size := ⟨_, rfl⟩
  rw [← g48] at A48 D48 st48
  have g_b48 : n0 ≤ b48 := Nat.le_trans z8 (Nat.le_of_eq g48.symm)
  have sz_b48 : h0.size ≤ b48 := Nat.le_trans kp9.1 (Nat.le_of_eq g48.symm)
  have ne_r0_b48 : r0 ≠ b48 := Nat.ne_of_lt (Nat.lt_of_lt_of_le fa3.lt (Nat.le_of_eq g48.symm))
  have ne_ta_b48 : ta ≠ b48 := Nat.ne_of_lt (Nat.lt_of_lt_of_le fa6.lt (Nat.le_of_eq g48.symm))
  have fa49 := fa3.ext E48
  have fa50 := fa4.ext E48
  have fa51 := fa5.ext E48
  have fa52 := fa6.ext E48
  have fa53 := fa7.ext E48
  have z54 : n0 ≤ h48.size := Nat.le_trans z8 E48.1
  have hk := Nat.le_trans hk E48.1
  have kp55 : Keep h0 h48 [] := kp9.ext E48
  have fa56 : Fld Z h48 b48 "com/example/fides/fides/HybridTimestamp" "bits" "J" (.long (0 : Int64)) := D48 (Or.inr (hq hw 28 rfl)) (ty := .long) (by decide)
  have G57 : ∀ t, Steps p.tables e below (T48.setTop (mkF m 172 #[rv r0, .val (.long (Int64.ofNat N)), .second, iv (Int32.ofNat len), s446, s546] [(.long (Int64.ofNat N)), (.ref b48), (.ref b48)])) t → Steps p.tables e below (s₁.setTop (entryFrame m #[(.ref r0)] 6)) t := by
   intro t kt
   refine G47 _ ?_
   refine st48 _ ?_
   refine XS.dup X48.here hx rfl (hb hby d13_170) rfl rfl ?_
   refine XS.lloadN X48.here hx rfl (hb hby d13_171) rfl ?_
   exact kt
  obtain ⟨_, _, ⟨T58, L58, k58, n58⟩, -, X58, ⟨Lc58, hQ58, l58, y58, z58⟩, st58⟩ := X48.specialBack hx (y := (⟨"com/example/fides/fides/HybridTimestamp", "<init>", "(J)V"⟩ : MethodName)) rfl hown (mvT hZ (hq hw 21 rfl)) (mvT hZ (hq hw 22 rfl)) (mvT hZ (hq hw 23 rfl)) (by decide) (backOf (W := 1) (rm3 l Z a0 hw [] b48 (Int64.ofNat N)  h48 n0 z54 fa56 A48 g_b48) hZ (hq hw 23 rfl) (hq hw 3 rfl) (by decide) (by decide)) (g := (mkF m 172 #[rv r0, .val (.long (Int64.ofNat N)), .second, iv (Int32.ofNat len), s446, s546] [(.long (Int64.ofNat N)), (.ref b48), (.ref b48)])) rfl (by rw [hml]; rfl) (Steps.refl _) (a := b48) (argsL := [(.long (Int64.ofNat N))]) (rest := [(.ref b48)]) (lenOf pd_6 rfl) rfl (by show 2 * 0 + _ ≤ _; exact Nat.le_of_eq rfl) (hb hby d13_172) (fun _ _ => ⟨rfl, e48, (by decide : 3 + 0 ≤ _), (by decide : 21 + 0 ≤ _)⟩)
  dsimp only [Pt.U, Pt.locs, Pt.cells, Pt.slots] at X58 l58 y58 z58 st58 hQ58
  subst l58 y58 z58
  obtain ⟨rfl, N58q, K58, A58, F58_0⟩ := hQ58
  have N58 := Fr.app N46 N58q
  have fa59 := fa49.keep K58
  have fa60 := fa50.keep K58 (ninS ne_r0_b48 nin0)
  have fa61 := fa51.keep K58 (ninS ne_r0_b48 nin0)
  have fa62 := fa52.keep K58 (ninS ne_ta_b48 nin0)
  have fa63 := fa53.keep K58 (allS g_b48 all0)
  have fa64 := A48.keep K58
  have z65 : n0 ≤ T58.heap.size := Nat.le_trans z54 K58.1
  have hk := Nat.le_trans hk K58.1
  have kp66 : Keep h0 T58.heap [] := kp55.trans K58 (allS (Or.inr sz_b48) all0)
  obtain ⟨fs, hr, hrun, hended, hRW⟩ := X58.leaveW (s := s) hS (by rw [show T58.heap = T58.heap from rfl]; exact hk) (v := some (.ref b48)) (fun h => by rw [Bd.returns] at h; cases h) (BodyLoose.notSynchronized Bd)
  refine ⟨_, _, G57 _ ?_, hrun, hended, _, _, rfl, ?_, hRW.1, hRW.2.1, hRW.2.2.1, hRW.2.2.2.mono (by decide) (by decide)⟩
  ·skip
   refine st58.trans ?_
   exact retOut X58 hx Bd.returns rfl (Or.inr (Or.inr (Or.inr (Or.inr ⟨rfl, rfl, rfl⟩)))) (hb hby d13_175) hr
  ·show Q13 Z r0 ta kk len N cst fv h0 n0 _ T58.heap _
   exact ⟨b48, rfl, N58, kp66, fa64, F58_0⟩
theorem own_bits (m : Int64) (k : Int32) (hm : 0 ≤ m.toInt ∧ m.toInt ≤ 281474976710655) (hk : 0 ≤ k.toInt ∧ k.toInt ≤ 65535) : (((m <<< ((16 : Int32) &&& 0x3f).toInt64) ||| (k.toInt64)).toInt - (m.toInt * 65536 + k.toInt)) % 18446744073709551616 = 0 := by
  have a1 := c_lshl m 16 16 (by decide)
  have e := c_i2l k
  have r := rng64 (m <<< ((16 : Int32) &&& 0x3f).toInt64)
  generalize hx : m <<< ((16 : Int32) &&& 0x3f).toInt64 = x at a1 r ⊢
  have p16 : ((2 ^ 16 : Nat) : Int) = 65536 := by decide
  rw [p16] at a1
  have a2 := c_orL x k.toInt64 16 (by decide) 65536 (by decide) (by omega) (by rw [e]; omega) (by rw [e]; omega)
  rw [e] at a2
  omega
theorem own_millis (m : Int64) (k : Int32) (hm : 0 ≤ m.toInt ∧ m.toInt ≤ 281474976710655) (hk : 0 ≤ k.toInt ∧ k.toInt ≤ 65535) : fmillis ((m <<< ((16 : Int32) &&& 0x3f).toInt64) ||| (k.toInt64)) = m := by
  have q := own_bits m k hm hk
  generalize ((m <<< ((16 : Int32) &&& 0x3f).toInt64) ||| (k.toInt64)) = b at q ⊢
  have a := c_lushr b 16 16 (by decide) (by decide)
  have p16 : ((2 ^ 16 : Nat) : Int) = 65536 := by decide
  rw [p16] at a
  rw [fmillis]
  apply Int64.toInt_inj.mp
  rw [a]
  omega
theorem own_counter (m : Int64) (k : Int32) (hm : 0 ≤ m.toInt ∧ m.toInt ≤ 281474976710655) (hk : 0 ≤ k.toInt ∧ k.toInt ≤ 65535) : fcounter ((m <<< ((16 : Int32) &&& 0x3f).toInt64) ||| (k.toInt64)) = k := by
  have q := own_bits m k hm hk
  generalize ((m <<< ((16 : Int32) &&& 0x3f).toInt64) ||| (k.toInt64)) = b at q ⊢
  have a := c_maskL b 65535 16 (by decide) (by decide)
  have p16 : ((2 ^ 16 : Nat) : Int) = 65536 := by decide
  rw [p16] at a
  rw [fcounter]
  have a2 := c_l2i (b &&& (65535 : Int64))
  have r := rng32 (b &&& (65535 : Int64)).toInt32
  rw [a] at a2
  apply Int32.toInt_inj.mp
  omega

theorem own_hr (q0 mi : Int64) (co : Int32) (hmi : mi = ((q0.toUInt64 >>> ((16 : Int32) &&& 0x3f).toInt64.toUInt64).toInt64)) (hco : co = ((q0 &&& (65535 : Int64)).toInt32)) : ¬ (mi < (0 : Int64)) ∧ ¬ ((281474976710655 : Int64) < mi) ∧ ¬ ((co.toInt64) < (0 : Int64)) ∧ ¬ ((65535 : Int64) < (co.toInt64)) ∧ (0 ≤ mi.toInt ∧ mi.toInt ≤ 281474976710655) ∧ (0 ≤ co.toInt ∧ co.toInt ≤ 65535) := by
  have a := c_lushr q0 16 16 (by decide) (by decide)
  have p16 : ((2 ^ 16 : Nat) : Int) = 65536 := by decide
  rw [p16, ← hmi] at a
  have b := c_maskL q0 65535 16 (by decide) (by decide)
  rw [p16] at b
  have c1 := c_l2i (q0 &&& (65535 : Int64))
  rw [← hco, b] at c1
  have r := rng32 co
  have e := c_i2l co
  have e0 : (0 : Int64).toInt = 0 := by decide
  have e1 : (281474976710655 : Int64).toInt = 281474976710655 := by decide
  have e2 : (65535 : Int64).toInt = 65535 := by decide
  have hmr : 0 ≤ mi.toInt ∧ mi.toInt ≤ 281474976710655 := by omega
  have hcr : 0 ≤ co.toInt ∧ co.toInt ≤ 65535 := by omega
  simp only [Int64.lt_iff_toInt_lt, e0, e1, e2, e]
  exact ⟨by omega, by omega, by omega, by omega, hmr, hcr⟩
theorem pd_34 : parseMethodDescriptor "(JI)Lcom/example/fides/fides/HybridTimestamp;" = some ⟨[.long, .int], some (.object "com/example/fides/fides/HybridTimestamp")⟩ := by decide +kernel
theorem pd_35 : parseMethodDescriptor "(Ljava/lang/String;)Lcom/example/fides/fides/HybridTimestamp;" = some ⟨[(.object "java/lang/String")], some (.object "com/example/fides/fides/HybridTimestamp")⟩ := by decide +kernel
theorem pd_36 : parseMethodDescriptor "()J" = some ⟨[], some .long⟩ := by decide +kernel
def Q0 (Z : State) (q0 : Int64) (cst : Int32) (fv : Value) (h0 : Heap) (n0 : Nat) (v : Option Value) (h : Heap) (L : List Loc) : Prop := v = some (.int (1 : Int32)) ∧ Fr n0 L
theorem ef_rm0 (m : MethodId) (x0 : Int64) : entryFrame m #[(.long x0)] maxLocals = mkF m 0 #[.val (.long x0), .second, .unset, .unset, .unset, .unset, .unset] [] := by first | (simp [entryFrame, mkF, argsToLocals, Value.category, maxLocals]; done) | rfl
theorem pnc_com_example_fides_fides_HybridTimestampParsePinLaw : plainName "com/example/fides/fides/HybridTimestampParsePinLaw" = true := by first | (simp [plainName, overriddenIn]; done) | decide +kernel
set_option maxRecDepth 65536 in
set_option maxHeartbeats 40000000 in
theorem rm0 (l : Launch) (Z : State) (a0 : Array Value) (hw : ∀ d ∈ tables_1, d.before a0 Z = true) (ws : List Jvm.Cond) (q0 : Int64) (cst : Int32) (fv : Value) (h0 : Heap) (n0 : Nat) (Z0 : n0 ≤ h0.size) (O0 : Old Z n0 h0) (TB : own_TB Z) (SM : own_SM Z) (SS : Sts Z cst fv) :
  MetFree l x (head1 (Jvm.Cond.code x code maxLocals ret :: ws) room_1) (fun a U => a = #[(.long q0)] ∧ Z.Warmed39 U.vm ∧ U.heap = h0) (fun _ _ _ _ _ => True) (fun _ U o U' => ∃ v L, o = .returned v ∧ Q0 Z q0 cst fv h0 n0 v U'.heap L ∧ ReturnedEndW U o U' L room_1.cells room_1.slots) := by
 refine MetFree.of_bodySF (plainFor_of_name pnc_com_example_fides_fides_HybridTimestampParsePinLaw) hisR ?_
 intro p e s m args below meth c s₁ Bd hml0 hP hK
 obtain ⟨rfl, hZ, hh⟩ := hP
 have hx := Bd.exec
 have hby := Bd.bytes
 have hml : c.maxLocals = 7 := hml0
 have hown : s.vm.findClass "com/example/fides/fides/HybridTimestampParsePinLaw" = some m.cls := findClass_of_methodNamed Bd.named
 have hnm := (name_of_methodNamed Bd.named Bd.method).1
 have X0 : Stand p l e room_1 s m #[(.long q0)] below meth c s₁ [] 0 0 := Stand.of_body Bd
 have e0 : s₁.heap = h0 := by rw [← hh, Bd.state]; rfl
 have N0 := Fr.nil n0
 have kp0 : Keep h0 h0 [] := Keep.refl _ _
 have G0 : ∀ t, Steps p.tables e below (s₁.setTop (mkF m 0 #[.val (.long q0), .second, .unset, .unset, .unset, .unset, .unset] [])) t → Steps p.tables e below (s₁.setTop (entryFrame m #[(.long q0)] maxLocals)) t := fun t k => castTop (ef_rm0 m q0) k
 have X0 : Stand p l e room_1 (s.setVm s.vm) m #[(.long q0)] below meth c s₁ [] 0 0 := X0
 have hZ : Z.Warmed39 (s.setVm s.vm).vm := hZ
 have hown : (s.setVm s.vm).vm.findClass "com/example/fides/fides/HybridTimestampParsePinLaw" = some m.cls := hown
 have hS : s.Since s.vm 0 := (State.WarmedH.refl s).since 0
 have hk : 0 ≤ h0.size := Nat.zero_le _
 have G1 : ∀ t, Steps p.tables e below (s₁.setTop (mkF m 13 #[.val (.long q0), .second, .val (.long ((q0.toUInt64 >>> ((16 : Int32) &&& 0x3f).toInt64.toUInt64).toInt64)), .second, iv ((q0 &&& (65535 : Int64)).toInt32), .unset, .unset] [])) t → Steps p.tables e below (s₁.setTop (entryFrame m #[(.long q0)] maxLocals)) t := by
  intro t kt
  refine G0 _ ?_
  refine XS.lloadN X0.here hx rfl (hb hby at_0) rfl ?_
  refine XS.bipush X0.here hx rfl (hb hby at_1) ?_
  refine XS.lushr X0.here hx rfl (hb hby at_3) rfl ?_
  refine XS.lstoreN X0.here hx rfl (hb hby at_4) rfl (l' := #[.val (.long q0), .second, .val (.long ((q0.toUInt64 >>> ((16 : Int32) &&& 0x3f).toInt64.toUInt64).toInt64)), .second, .unset, .unset, .unset]) rfl ?_
  refine XS.lloadN X0.here hx rfl (hb hby at_5) rfl ?_
  refine X0.ldc2Long hx hown (mvT hZ (hq hw 0 rfl)) (g := (mkF m 6 #[.val (.long q0), .second, .val (.long ((q0.toUInt64 >>> ((16 : Int32) &&& 0x3f).toInt64.toUInt64).toInt64)), .second, .unset, .unset, .unset] [(.long q0)])) rfl (hb hby at_6) _ ?_
  refine XS.land X0.here hx rfl (hb hby at_9) rfl ?_
  refine XS.l2i X0.here hx rfl (hb hby at_10) rfl ?_
  refine XS.istore X0.here hx rfl (hb hby at_11) rfl (l' := #[.val (.long q0), .second, .val (.long ((q0.toUInt64 >>> ((16 : Int32) &&& 0x3f).toInt64.toUInt64).toInt64)), .second, iv ((q0 &&& (65535 : Int64)).toInt32), .unset, .unset]) rfl ?_
  exact kt
 obtain ⟨mi, hmi⟩ : ∃ z : Int64, z = ((q0.toUInt64 >>> ((16 : Int32) &&& 0x3f).toInt64.toUInt64).toInt64) := ⟨_, rfl⟩
 obtain ⟨co, hco⟩ : ∃ z : Int32, z = ((q0 &&& (65535 : Int64)).toInt32) := ⟨_, rfl⟩
 have G2 : ∀ t, Steps p.tables e below (s₁.setTop (mkF m 13 #[.val (.long q0), .second, .val (.long mi), .second, iv co, .unset, .unset] [])) t → Steps p.tables e below (s₁.setTop (entryFrame m #[(.long q0)] maxLocals)) t := by
  intro t kt
  rw [hmi, hco] at kt
  exact G1 t kt
 have hr := own_hr q0 mi co hmi hco
 have G3 : ∀ t, Steps p.tables e below (s₁.setTop (mkF m 16 #[.val (.long q0), .second, .val (.long mi), .second, iv co, .unset, .unset] [(.int co), (.long mi)])) t → Steps p.tables e below (s₁.setTop (entryFrame m #[(.long q0)] maxLocals)) t := by
  intro t kt
  refine G2 _ ?_
  refine XS.lloadN X0.here hx rfl (hb hby at_13) rfl ?_
  refine XS.iload X0.here hx rfl (hb hby at_14) rfl ?_
  exact kt
 obtain ⟨_, vm4, ⟨T4, L4, k4, n4⟩, -, X4, hS4, gr4, ⟨Lc4, hQ4, l4, y4, z4⟩, st4⟩ := callSS X0 hx (y := (⟨"com/example/fides/fides/HybridTimestamp", "of", "(JI)Lcom/example/fides/fides/HybridTimestamp;"⟩ : MethodName)) hown (mvT hZ (hq hw 1 rfl)) (mvT hZ (hq hw 2 rfl)) (mvT hZ (hq hw 3 rfl)) (mvT hZ (hq hw 4 rfl)) (by decide) (backOfS (W := 0) (rm1 l Z a0 hw [] mi co  h0 n0 Z0 hr.1 hr.2.1 hr.2.2.1 hr.2.2.2.1) hZ (hq hw 4 rfl) (hq hw 3 rfl) (by decide) (by decide)) (g := (mkF m 16 #[.val (.long q0), .second, .val (.long mi), .second, iv co, .unset, .unset] [(.int co), (.long mi)])) rfl (by rw [hml]; rfl) (argsL := [(.long mi), (.int co)]) (rest := []) (lenOf pd_34 rfl) rfl (by show 2 * 0 + _ ≤ _; exact Nat.le_of_eq rfl) (hb hby at_16) (fun _ _ => ⟨rfl, e0, (by decide : 0 + 5 ≤ _), (by decide : 0 + 61 ≤ _)⟩)
 dsimp only [Pt.U, Pt.locs, Pt.cells, Pt.slots] at X4 l4 y4 z4 st4 hQ4 hS4 gr4
 subst l4 y4 z4
 have hS := hS.trans hS4 (Nat.le_trans hk (by rw [← show s₁.heap = h0 from e0]; exact gr4))
 have hZ : Z.Warmed39 (s.setVm T4.vm).vm := State.Warmed39.trans hZ hS4.1
 have hown : (s.setVm T4.vm).vm.findClass "com/example/fides/fides/HybridTimestampParsePinLaw" = some m.cls := by rw [show (s.setVm T4.vm).vm = T4.vm from rfl, hS4.1.alike.findClass]; exact hown
 have X4 : Stand p l e room_1 (s.setVm T4.vm) m #[(.long q0)] below meth c T4 _ _ _ := X4
 have hk : T4.heap.size ≤ T4.heap.size := Nat.le_refl _
 obtain ⟨bh4, rfl, N4q, K4, A4, F4⟩ := hQ4
 have N4 := Fr.app N0 N4q
 have fa5 := O0.keep K4 all0
 have z6 : n0 ≤ T4.heap.size := Nat.le_trans Z0 K4.1
 have kp7 : Keep h0 T4.heap [] := kp0.trans K4 all0
 have G8 : ∀ t, Steps p.tables e below (T4.setTop (mkF m 23 #[.val (.long q0), .second, .val (.long mi), .second, iv co, rv bh4, .unset] [(.ref bh4)])) t → Steps p.tables e below (s₁.setTop (entryFrame m #[(.long q0)] maxLocals)) t := by
  intro t kt
  refine G3 _ ?_
  refine st4.trans ?_
  refine XS.astore X4.here hx rfl (hb hby at_19) rfl rfl (l' := #[.val (.long q0), .second, .val (.long mi), .second, iv co, rv bh4, .unset]) rfl ?_
  refine XS.aload X4.here hx rfl (hb hby at_21) rfl rfl ?_
  exact kt
 obtain ⟨cq9, kq9, q9a, q9b, q9c⟩ := isOf hZ rfl A4
 obtain ⟨_, _, ⟨T9, L9, k9, n9⟩, -, X9, ⟨Lc9, hQ9, l9, y9, z9⟩, st9⟩ := X4.virtualBack hx (y := (⟨"com/example/fides/fides/HybridTimestamp", "toString", "()Ljava/lang/String;"⟩ : MethodName)) (z := (⟨"com/example/fides/fides/HybridTimestamp", "toString", "()Ljava/lang/String;"⟩ : MethodName)) hown (mvT hZ (hq hw 29 rfl)) (mvT hZ (hq hw 30 rfl)) (notFace_of_selects (args := #[]) (mvT hZ (hq hw 32 rfl))) (mvT hZ (hq hw 32 rfl)) (mvT hZ (hq hw 31 rfl)) (by decide) (backOf (W := 0) (rm5 l Z a0 hw [] bh4 ((mi <<< ((16 : Int32) &&& 0x3f).toInt64) ||| (co.toInt64)) cst fv T4.heap n0 z6 F4 fa5 TB SS) hZ (hq hw 33 rfl) (hq hw 3 rfl) (by decide) (by decide)) q9a q9c (g := (mkF m 23 #[.val (.long q0), .second, .val (.long mi), .second, iv co, rv bh4, .unset] [(.ref bh4)])) rfl (by rw [hml]; rfl) (Steps.refl _) (argsL := []) (rest := []) (lenOf pd_30 rfl) rfl (by show 2 * 0 + _ ≤ _; exact Nat.le_of_eq rfl) (hb hby at_23) (fun _ _ => ⟨rfl, rfl, (by decide : 5 + 7 ≤ _), (by decide : 61 + 102 ≤ _)⟩)
 dsimp only [Pt.U, Pt.locs, Pt.cells, Pt.slots] at X9 l9 y9 z9 st9 hQ9
 subst l9 y9 z9
 obtain ⟨s9, t9, kb9, len9, rfl, N9q, K9, A9, Fc9, Fv9, V9, zs9, zt9, hln9⟩ := hQ9
 have N9 := Fr.app N4 N9q
 have zsk9 : h0.size ≤ s9 := Nat.le_trans kp7.1 zs9
 have ztk9 : h0.size ≤ t9 := Nat.le_trans kp7.1 zt9
 have ne_bh4_s9 : bh4 ≠ s9 := Nat.ne_of_lt (Nat.lt_of_lt_of_le A4.lt zs9)
 have ne_bh4_t9 : bh4 ≠ t9 := Nat.ne_of_lt (Nat.lt_of_lt_of_le A4.lt zt9)
 have fa10 := fa5.keep K9 all0
 have fa11 := A4.keep K9
 have fa12 := F4.keep K9 nin0
 have z13 : n0 ≤ T9.heap.size := Nat.le_trans z6 K9.1
 have hk := Nat.le_trans hk K9.1
 have kp14 : Keep h0 T9.heap [] := kp7.trans K9 all0
 have G15 : ∀ t, Steps p.tables e below (T9.setTop (mkF m 26 #[.val (.long q0), .second, .val (.long mi), .second, iv co, rv bh4, .unset] [(.ref s9)])) t → Steps p.tables e below (s₁.setTop (entryFrame m #[(.long q0)] maxLocals)) t := by
  intro t kt
  refine G8 _ ?_
  refine st9.trans ?_
  exact kt
 obtain ⟨_, vm16, ⟨T16, L16, k16, n16⟩, -, X16, hS16, gr16, ⟨Lc16, hQ16, l16, y16, z16⟩, st16⟩ := callSS X9 hx (y := (⟨"com/example/fides/fides/HybridTimestamp", "parse", "(Ljava/lang/String;)Lcom/example/fides/fides/HybridTimestamp;"⟩ : MethodName)) hown (mvT hZ (hq hw 66 rfl)) (mvT hZ (hq hw 67 rfl)) (mvT hZ (hq hw 3 rfl)) (mvT hZ (hq hw 68 rfl)) (by decide) (backOfS (W := 0) (rm13 l Z a0 hw [] s9 t9 kb9 len9 (own_u ((mi <<< ((16 : Int32) &&& 0x3f).toInt64) ||| (co.toInt64))) cst fv T9.heap n0 z13 A9 Fc9 Fv9 V9 fa10 hln9 (own_u2 _) SM SS) hZ (hq hw 68 rfl) (hq hw 3 rfl) (by decide) (by decide)) (g := (mkF m 26 #[.val (.long q0), .second, .val (.long mi), .second, iv co, rv bh4, .unset] [(.ref s9)])) rfl (by rw [hml]; rfl) (argsL := [(.ref s9)]) (rest := []) (lenOf pd_35 rfl) rfl (by show 2 * 0 + _ ≤ _; exact Nat.le_of_eq rfl) (hb hby at_26) (fun _ _ => ⟨rfl, rfl, (by decide : 12 + 4 ≤ _), (by decide : 163 + 64 ≤ _)⟩)
 dsimp only [Pt.U, Pt.locs, Pt.cells, Pt.slots] at X16 l16 y16 z16 st16 hQ16 hS16 gr16
 subst l16 y16 z16
 have hS := hS.trans hS16 (Nat.le_trans hk (by rw [← show T9.heap = T9.heap from rfl]; exact gr16))
 have hZ : Z.Warmed39 (s.setVm T16.vm).vm := State.Warmed39.trans hZ hS16.1
 have hown : (s.setVm T16.vm).vm.findClass "com/example/fides/fides/HybridTimestampParsePinLaw" = some m.cls := by rw [show (s.setVm T16.vm).vm = T16.vm from rfl, hS16.1.alike.findClass]; exact hown
 have X16 : Stand p l e room_1 (s.setVm T16.vm) m #[(.long q0)] below meth c T16 _ _ _ := X16
 have hk : T16.heap.size ≤ T16.heap.size := Nat.le_refl _
 obtain ⟨bh16, rfl, N16q, K16, A16, F16⟩ := hQ16
 have N16 := Fr.app N9 N16q
 have fa17 := fa10.keep K16 all0
 have fa18 := fa11.keep K16
 have fa19 := fa12.keep K16 nin0
 have fa20 := A9.keep K16
 have fa21 := Fc9.keep K16 nin0
 have fa22 := Fv9.keep K16 nin0
 have fa23 := V9.keep K16 nin0
 have z24 : n0 ≤ T16.heap.size := Nat.le_trans z13 K16.1
 have kp25 : Keep h0 T16.heap [] := kp14.trans K16 all0
 have G26 : ∀ t, Steps p.tables e below (T16.setTop (mkF m 33 #[.val (.long q0), .second, .val (.long mi), .second, iv co, rv bh4, rv bh16] [(.ref bh16)])) t → Steps p.tables e below (s₁.setTop (entryFrame m #[(.long q0)] maxLocals)) t := by
  intro t kt
  refine G15 _ ?_
  refine st16.trans ?_
  refine XS.astore X16.here hx rfl (hb hby at_29) rfl rfl (l' := #[.val (.long q0), .second, .val (.long mi), .second, iv co, rv bh4, rv bh16]) rfl ?_
  refine XS.aload X16.here hx rfl (hb hby at_31) rfl rfl ?_
  exact kt
 obtain ⟨cq27, kq27, q27a, q27b, q27c⟩ := isOf hZ rfl A16
 obtain ⟨_, _, ⟨T27, L27, k27, n27⟩, -, X27, ⟨Lc27, hQ27, l27, y27, z27⟩, st27⟩ := X16.virtualBack hx (y := (⟨"com/example/fides/fides/HybridTimestamp", "millis", "()J"⟩ : MethodName)) (z := (⟨"com/example/fides/fides/HybridTimestamp", "millis", "()J"⟩ : MethodName)) hown (mvT hZ (hq hw 122 rfl)) (mvT hZ (hq hw 123 rfl)) (notFace_of_selects (args := #[]) (mvT hZ (hq hw 125 rfl))) (mvT hZ (hq hw 125 rfl)) (mvT hZ (hq hw 124 rfl)) (by decide) (backOf (W := 0) (rm25 l Z a0 hw [] bh16 (Int64.ofNat (own_u ((mi <<< ((16 : Int32) &&& 0x3f).toInt64) ||| (co.toInt64)))) T16.heap n0 z24 F16) hZ (hq hw 126 rfl) (hq hw 3 rfl) (by decide) (by decide)) q27a q27c (g := (mkF m 33 #[.val (.long q0), .second, .val (.long mi), .second, iv co, rv bh4, rv bh16] [(.ref bh16)])) rfl (by rw [hml]; rfl) (Steps.refl _) (argsL := []) (rest := []) (lenOf pd_36 rfl) rfl (by show 2 * 0 + _ ≤ _; exact Nat.le_of_eq rfl) (hb hby at_33) (fun _ _ => ⟨rfl, rfl, (by decide : 16 + 0 ≤ _), (by decide : 227 + 0 ≤ _)⟩)
 dsimp only [Pt.U, Pt.locs, Pt.cells, Pt.slots] at X27 l27 y27 z27 st27 hQ27
 subst l27 y27 z27
 obtain ⟨rfl, N27q, eh27⟩ := hQ27
 have N27 := Fr.app N16 N27q
 have G28 : ∀ t, Steps p.tables e below (T27.setTop (mkF m 38 #[.val (.long q0), .second, .val (.long mi), .second, iv co, rv bh4, rv bh16] [(.int (lcmpW (fmillis (Int64.ofNat (own_u ((mi <<< ((16 : Int32) &&& 0x3f).toInt64) ||| (co.toInt64))))) mi))])) t → Steps p.tables e below (s₁.setTop (entryFrame m #[(.long q0)] maxLocals)) t := by
  intro t kt
  refine G26 _ ?_
  refine st27.trans ?_
  show Steps p.tables e below (T27.setTop (mkF m 36 #[.val (.long q0), .second, .val (.long mi), .second, iv co, rv bh4, rv bh16] [(.long (fmillis (Int64.ofNat (own_u ((mi <<< ((16 : Int32) &&& 0x3f).toInt64) ||| (co.toInt64))))))])) _
  refine XS.lloadN X27.here hx rfl (hb hby at_36) rfl ?_
  refine XS.lcmp X27.here hx rfl (hb hby at_37) rfl ?_
  exact kt
 have hc38_29 : (fmillis (Int64.ofNat (own_u ((mi <<< ((16 : Int32) &&& 0x3f).toInt64) ||| (co.toInt64))))) = mi := by rw [own_u1]; exact own_millis mi co hr.2.2.2.2.1 hr.2.2.2.2.2
 have G30 : ∀ t, Steps p.tables e below (T27.setTop (mkF m 43 #[.val (.long q0), .second, .val (.long mi), .second, iv co, rv bh4, rv bh16] [(.ref bh16)])) t → Steps p.tables e below (s₁.setTop (entryFrame m #[(.long q0)] maxLocals)) t := by
  intro t kt
  refine G28 _ ?_
  refine XS.ifNo X27.here hx rfl (hb hby at_38) rfl ((if0 _ _).trans (teq ((lw_eq _ _).mpr hc38_29)).2) ?_
  refine XS.aload X27.here hx rfl (hb hby at_41) rfl rfl ?_
  exact kt
 obtain ⟨cq31, kq31, q31a, q31b, q31c⟩ := isOf hZ eh27 A16
 obtain ⟨_, _, ⟨T31, L31, k31, n31⟩, -, X31, ⟨Lc31, hQ31, l31, y31, z31⟩, st31⟩ := X27.virtualBack hx (y := (⟨"com/example/fides/fides/HybridTimestamp", "counter", "()I"⟩ : MethodName)) (z := (⟨"com/example/fides/fides/HybridTimestamp", "counter", "()I"⟩ : MethodName)) hown (mvT hZ (hq hw 127 rfl)) (mvT hZ (hq hw 128 rfl)) (notFace_of_selects (args := #[]) (mvT hZ (hq hw 130 rfl))) (mvT hZ (hq hw 130 rfl)) (mvT hZ (hq hw 129 rfl)) (by decide) (backOf (W := 0) (rm26 l Z a0 hw [] bh16 (Int64.ofNat (own_u ((mi <<< ((16 : Int32) &&& 0x3f).toInt64) ||| (co.toInt64)))) T16.heap n0 z24 F16) hZ (hq hw 131 rfl) (hq hw 3 rfl) (by decide) (by decide)) q31a q31c (g := (mkF m 43 #[.val (.long q0), .second, .val (.long mi), .second, iv co, rv bh4, rv bh16] [(.ref bh16)])) rfl (by rw [hml]; rfl) (Steps.refl _) (argsL := []) (rest := []) (lenOf pd_19 rfl) rfl (by show 2 * 0 + _ ≤ _; exact Nat.le_of_eq rfl) (hb hby at_43) (fun _ _ => ⟨rfl, eh27, (by decide : 16 + 0 ≤ _), (by decide : 227 + 0 ≤ _)⟩)
 dsimp only [Pt.U, Pt.locs, Pt.cells, Pt.slots] at X31 l31 y31 z31 st31 hQ31
 subst l31 y31 z31
 obtain ⟨rfl, N31q, eh31⟩ := hQ31
 have N31 := Fr.app N27 N31q
 have G32 : ∀ t, Steps p.tables e below (T31.setTop (mkF m 48 #[.val (.long q0), .second, .val (.long mi), .second, iv co, rv bh4, rv bh16] [(.int co), (.int (fcounter (Int64.ofNat (own_u ((mi <<< ((16 : Int32) &&& 0x3f).toInt64) ||| (co.toInt64))))))])) t → Steps p.tables e below (s₁.setTop (entryFrame m #[(.long q0)] maxLocals)) t := by
  intro t kt
  refine G30 _ ?_
  refine st31.trans ?_
  refine XS.iload X31.here hx rfl (hb hby at_46) rfl ?_
  exact kt
 have hc48_33 : (fcounter (Int64.ofNat (own_u ((mi <<< ((16 : Int32) &&& 0x3f).toInt64) ||| (co.toInt64))))) = co := by rw [own_u1]; exact own_counter mi co hr.2.2.2.2.1 hr.2.2.2.2.2
 obtain ⟨fs, hr, hrun, hended, hRW⟩ := X31.leaveW (s := s) hS (by rw [show T31.heap = T16.heap from eh31]; exact hk) (v := some (.int (1 : Int32))) (fun h => by rw [Bd.returns] at h; cases h) (BodyLoose.notSynchronized Bd)
 refine ⟨_, _, G32 _ ?_, hrun, hended, _, _, rfl, ?_, hRW.1, hRW.2.1, hRW.2.2.1, hRW.2.2.2.mono (by decide) (by decide)⟩
 ·skip
  refine XS.icmpNo X31.here hx rfl (hb hby at_48) rfl (teq hc48_33).2 ?_
  refine XS.iconst X31.here hx rfl (hb hby at_51) ?_
  refine XS.goto X31.here hx rfl (pc0 := 52) (pc' := 56) rfl (hb hby at_52) (by decide) (by decide) ?_
  exact retN X31 hx (t := .boolean) Bd.returns (by simp) (hb hby at_56) hr
 ·show Q0 Z q0 cst fv h0 n0 _ T31.heap _
  rw [eh31]
  exact ⟨rfl, N31⟩
theorem own_eqI {args : Array Value} {s : State} {t : Term} {k : Int32} (h : (Jvm.Cond.eq t (Jvm.Term.int k)).value args s none s [] = some true) : t.eval args s none [] s = some (.int k) := by
  simp only [Cond.value, Term.eval] at h
  cases ht : t.eval args s none [] s with
  | none => simp [ht] at h
  | some x => cases x <;> simp [ht] at h ⊢; exact h

theorem own_lenA {args : Array Value} {s : State} {t : Term} {x : Addr} {cl : Cell} {k : Int32} (h : (Term.length t).eval args s none [] s = some (.int k)) (ht : t.eval args s none [] s = some (.ref x)) (ha : s.arrayAt? x = some cl) : cl.slots.size < 2 ^ 31 ∧ cl.slots.size.toInt32 = k := by
  by_cases hl : cl.slots.size < 2 ^ 31
  · rw [len_f ht ha hl] at h
    exact ⟨hl, Value.int.inj (Option.some.inj h)⟩
  · exfalso
    simp [Term.eval, ht, ha, hl] at h
theorem own_eqL {args : Array Value} {s : State} {t : Term} {k : Int64} (h : (Jvm.Cond.eq t (Jvm.Term.long k)).value args s none s [] = some true) : t.eval args s none [] s = some (.long k) := by
  simp only [Cond.value, Term.eval] at h
  cases ht : t.eval args s none [] s with
  | none => simp [ht] at h
  | some x => cases x <;> simp [ht] at h ⊢; exact h
theorem own_eqV {args : Array Value} {s : State} {t t2 : Term} {k : Int32} {idx : List Nat} (h : (Jvm.Cond.eq t t2).value args s none s idx = some true) (e : t2.eval args s none idx s = some (.int k)) : t.eval args s none idx s = some (.int k) := by
  simp only [Cond.value, e] at h
  cases ht : t.eval args s none idx s with
  | none => simp [ht] at h
  | some x => cases x <;> simp [ht] at h ⊢; exact h
open Jvm.Free.SBG in
theorem own_tbl {a : Array Value} {s : State} {name : String} {rhs : Term} {F : Nat → Nat} (hl : (Cond.laysStatic INT name "[B").before a s = true) (hini : (Cond.initialized INT).before a s = true) (hx : (Cond.exactly (Tof name) "[B").before a s = true) (hn : (Cond.eq (Term.length (Tof name)) (Term.int (100 : Int32))).before a s = true) (hall : (Cond.all (Tof name) (Cond.eq (Term.elem (Tof name) (Term.index 0)) rhs)).before a s = true)
    (hrhs : ∀ r, r < 100 → rhs.eval a s none [r] s = some (.int (Int32.ofNat (F r)))) (harr : (Cond.arrayClass .byte).before a s = true) :
    ∃ (c : ClassId) (k : Class) (st d : Addr) (D : Cell), s.vm.findClass INT = some c ∧ s.vm.classes[c]? = some k ∧ k.statics = some st ∧ Tbl s name st d D ∧ ∀ r, r < 100 → iAt D r = Int32.ofNat (F r) := by
  obtain ⟨c, k, i, f, st, cell, hc, hi, hst, ha, hcell, hs, hcls, hlt, hty⟩ := Cond.laysStatic_spec hl
  obtain ⟨d, cB, D, kB, hev, hfcB, hcellD, hkB, hstatD, hclsD, -⟩ := Cond.exactly_spec hx
  obtain ⟨cf, i2, k2, f2, st2, cell2, s1, s2, s3, s4, s5, s6, s7⟩ := Sta.start (show (Term.static INT name "[B").eval a s none [] s = some (.ref d) from hev) (Or.inr ⟨hini, hl⟩)
  cases hi.symm.trans s1
  cases ha.symm.trans s4
  cases hcell.symm.trans s5
  have hevA : ∀ idx, (Tof name).eval a s none idx s = some (.ref d) := fun idx => hev
  have hlv := own_eqI (Cond.before_iff.mp hn)
  obtain ⟨d', D', hev', hat, -⟩ := Term.length_spec hlv
  cases hev.symm.trans hev'
  obtain ⟨hcellD', hknD, -, -⟩ := State.arrayAt?_spec hat
  cases hcellD.symm.trans hcellD'
  obtain ⟨lz1, lz2⟩ := own_lenA hlv hev hat
  have hsz : D.slots.size = 100 := by
    have S : D.slots.size = (100 : Int32).toNatClampNeg := by rw [← lz2]; simp only [Int32.toNatClampNeg, len_toInt lz1]; rfl
    rw [S]; decide
  obtain ⟨cB', kB', comp, hnameB, hkB', hkindB⟩ := Cond.arrayClass_spec harr
  have eBA : ("[" ++ FieldType.toString .byte) = "[B" := by decide
  rw [eBA] at hnameB
  cases hfcB.symm.trans hnameB
  cases hkB.symm.trans hkB'
  have hel : ∀ r, r < 100 → D.slots[r]? = some (.int (Int32.ofNat (F r))) := fun r hr => by
    have h := Cond.all_elim hev hat (Cond.before_iff.mp hall) r (by omega)
    have eL : (Term.elem (Tof name) (.index 0)).eval a s none [r] s = D.slots[r]? := Jvm.Free.SBG.elem_at (ix := .index 0) (hevA [r]) hat (by omega) lz1 rfl
    rw [← eL]
    exact own_eqV h (hrhs r hr)
  have hia : ∀ r, r < 100 → iAt D r = Int32.ofNat (F r) := fun r hr => by
    unfold iAt
    rw [show D.slots.getD r .null = .int (Int32.ofNat (F r)) from by rw [Array.getD_eq_getD_getElem?, hel r hr]; rfl]
  exact ⟨c, k, st, d, D, hc, (State.fieldFound?_spec hi).1, ha, ⟨c, i, k, f, cell, hi, hst, s3, ha, hcell, (fun h => by rw [h] at hs; cases hs), s7, hcellD, ⟨(fun q h => by rw [h] at hstatD; cases hstatD), kB, (by rw [hclsD]; exact hkB), comp, hkindB⟩, hknD, hsz, fun r hr => by rw [hia r hr]; exact hel r hr⟩, hia⟩
set_option maxRecDepth 65536 in
set_option maxHeartbeats 40000000 in
theorem comes_1 {Post : Tables → Env → Array Value → State → Outcome → State → Prop} (hpost : ∀ tb e args s v u, (limb_1_1.after args s (.returned v) u = true ∧ limb_1_2.after args s (.returned v) u = true ∧ True) → ReturnedEndW s (.returned v) u (Jvm.fieldLocs frame_1_writes args s ++ Jvm.arrayLocs frame_1_arrays args s ++ Jvm.staticLocs frame_1_statics s) 32 3392 → Post tb e args s (.returned v) u) :
    ArmFor flags0 classFile x code maxLocals ret World_1 tables_1 room_1 Calls_1 rest_1 Pre_1 Post := by
  intro l hfl _ _ p e ha hc hk s m args below hf hA hF happ hP
  obtain ⟨hcalls, hrest, hpre⟩ := hP
  obtain ⟨-, -, -, hnamed, -, -, -, hat⟩ := (Spec.applies_iff hf).mp happ
  obtain ⟨hg, hn⟩ := and_e (Cond.before_iff.mp (show (Jvm.Cond.and given_1 narrow_1).before args s = true from hpre))
  obtain ⟨g1, g2⟩ := and_e hg
  obtain ⟨w0, rfl⟩ : ∃ w0 : Value, args = #[w0] := by
    have hs : args.size = 1 := by simpa [Cond.value, given_1] using g1
    obtain ⟨L⟩ := args
    match L, hs with
    | [w0], _ => exact ⟨w0, rfl⟩
  have hw := fun d (hd : d ∈ tables_1) => atoms_spec (ws := Jvm.Cond.code x code maxLocals ret :: tables_1) hat d (List.mem_cons_of_mem _ hd)
  have hfit : Fit s := fun {y c} hc i hi => by
    obtain ⟨ha, rfl⟩ := Array.getElem?_eq_some_iff.mp hc
    have q := List.all_eq_true.mp ((Array.all_eq_true_iff_forall_mem.mp hF) _ (Array.getElem_mem ha)) i (List.mem_range.mpr hi)
    simpa [Array.getElem?_eq_getElem hi] using q
  obtain ⟨hsets, hown0⟩ := atoms_of _ (rest_1_c_eq ▸ (show rest_1_c.before _ s = true from hrest))
  have hr0 := Cond.before_iff.mp hown0
  obtain ⟨i0, ei0⟩ := isL_v g2
  obtain rfl : w0 = (.long i0) := Option.some.inj ei0
  obtain ⟨hm1, hm2⟩ := and_e hn
  have SM : own_SM s := ⟨Sta.start (own_eqL hm1) (Or.inr ⟨(hq hw 3 rfl), (hq hw 113 rfl)⟩), Sta.start (own_eqI hm2) (Or.inr ⟨(hq hw 3 rfl), (hq hw 268 rfl)⟩)⟩
  obtain ⟨cst, evc⟩ := is_v (Cond.before_iff.mp (hsets _ (List.mem_of_getElem? (i := 1) rfl)))
  have SC := Sta.start evc (Or.inl (hsets _ (List.mem_of_getElem? (i := 0) rfl)))
  have hcst : ¬ (cst = (0 : Int32)) := fun q => by
    have z := not_v (Cond.before_iff.mp (hsets _ (List.mem_of_getElem? (i := 2) rfl)))
    rw [Cond.eq_ints evc (Term.int_eval _), decide_eq_true q] at z
    cases z
  obtain ⟨fv, evf, hfv⟩ := isR_v (Cond.before_iff.mp (hsets _ (List.mem_of_getElem? (i := 8) rfl)))
  have SF := Sta.start evf (Or.inl (hsets _ (List.mem_of_getElem? (i := 7) rfl)))
  have SS : Sts s cst fv := ⟨SC, hcst, trivial, trivial, trivial, SF, hfv⟩
  have O0 := Old.start s
  have harrB := (hq hw 8 rfl)
  obtain ⟨c1, k1, st1, d1, D1, f1, g1, u1, T1, O1⟩ := own_tbl (F := fun r => 48 + r % 10) (hsets _ (List.mem_of_getElem? (i := 10) rfl)) (hsets _ (List.mem_of_getElem? (i := 9) rfl)) (hsets _ (List.mem_of_getElem? (i := 12) rfl)) (hsets _ (List.mem_of_getElem? (i := 13) rfl)) (hsets _ (List.mem_of_getElem? (i := 14) rfl)) (fun r hr => by rw [← Jvm.Free.SBG.ones_num r hr]; rfl) harrB
  obtain ⟨c2, k2, st2, d2, D2, f2, g2, u2, T2, O2⟩ := own_tbl (F := fun r => 48 + r / 10) (hsets _ (List.mem_of_getElem? (i := 15) rfl)) (hsets _ (List.mem_of_getElem? (i := 9) rfl)) (hsets _ (List.mem_of_getElem? (i := 17) rfl)) (hsets _ (List.mem_of_getElem? (i := 18) rfl)) (hsets _ (List.mem_of_getElem? (i := 19) rfl)) (fun r hr => by rw [← Jvm.Free.SBG.tens_num r hr]; rfl) harrB
  cases f1.symm.trans f2
  cases g1.symm.trans g2
  cases u1.symm.trans u2
  have TB : own_TB s := ⟨_, _, _, _, _, T1, T2, O1, O2⟩
  obtain ⟨n, o, h1, h2, h3, _, L, rfl, ⟨rfl, N⟩, hq⟩ := rm0 l s _ hw tables_1 i0 cst fv s.heap s.heap.size (Nat.le_refl _) O0 TB SM SS p e ha hc hk s m _ below hf ((Spec.applies_iff_loose hf).mp happ).1 ⟨rfl, State.Warmed39.refl s, rfl⟩ trivial
  refine ⟨n, _, h1, h2, h3, hpost _ _ _ _ _ _ ⟨Cond.after_iff.mpr rfl, Cond.after_iff.mpr (eq_i res_at (Term.int_eval (1)) rfl), trivial⟩ ⟨hq.1, hq.2.1, hq.2.2.1, (hq.2.2.2.sift fun y hy => Or.inr (N y hy)).mono (by decide) (by decide)⟩⟩
theorem main_1_1 : Claimed_1_1 := comes_1 fun _ _ _ _ _ _ h hF => ⟨h.1, hF⟩
theorem main_1_2 : Claimed_1_2 := comes_1 fun _ _ _ _ _ _ h hF => ⟨h.2.1, hF⟩
end Jvm.Pilot.@@N@@
namespace Jvm.Pilot.@@N@@
open Jvm Jvm.ClassFile Sem Op Lib Jvm.Free Jvm.Stand Jvm.Pilot.@@N@@.Jvm.D
/-! MADE BY PROGRAM (witnessworld.py) out of the Statement's table words and the real class files: 27 classes; the members and pool entries that the words name. The judged class is class 1, her method 1. -/
namespace start1
open Jvm.ClassFile
def u (s : String) : CpInfo := .utf8 (stringToUtf16 s)
/-- a pool by its gaps: so many unusable entries, then the entry; so many at the end -/
def gap : Nat → List CpInfo → List CpInfo
  | 0, r => r
  | n + 1, r => .unusable :: gap n r
def poolList (es : List (Nat × CpInfo)) (last : Nat) : List CpInfo := es.foldr (fun e r => gap e.1 (e.2 :: r)) (gap last [])
def pool (es : List (Nat × CpInfo)) (last : Nat) : Array CpInfo := ⟨poolList es last⟩
def fileOf (pool : Array CpInfo) (this : Nat) (attrs : Array Attribute := #[]) (ms : Array MethodInfo := #[]) (fl : Nat := 33) (sup : Nat := 0) (ifs : Array Nat := #[]) (fds : Array FieldInfo := #[]) : ClassFile where
  minorVersion := 0
  majorVersion := 65
  constantPool := pool
  accessFlags := fl
  thisClass := this
  superClass := sup
  interfaces := ifs
  fields := fds
  methods := ms
  attributes := attrs
def plain (name : String) (sup : Option ClassId) : Class where
  name := name
  kind := .ordinary
  loader := none
  accessFlags := 33
  super := sup
  interfaces := #[]
  cf := none
  fields := #[]
  methods := #[]
  instanceTypes := #[]
  staticTypes := #[]
  resolved := #[]
  callSites := []
  init := .initialized
  statics := none
  mirror := none

def pool0 : Array CpInfo := pool [(5, u "<init>"), (0, u "()V"), (1, .class_ 10), (1, u "java/lang/Object")] 113

def k0c0 : Code := { maxStack := 0, maxLocals := 1, code := object_method_1_code, exceptionTable := #[], attributes := #[] }
def k0m0 : Method := { name := "<init>", desc := "()V", sig := { parameters := [], returnType := none }, accessFlags := 1, code := some k0c0 }
/-- java/lang/Object -/
def k0 : Class := { plain "java/lang/Object" none with
  accessFlags := 33
  interfaces := #[]
  cf := some (fileOf pool0 8 #[] #[{ accessFlags := 1, nameIndex := 5, descriptorIndex := 6, attributes := #[] }] 33 0 #[] #[])
  fields := #[]
  methods := #[k0m0]
  instanceTypes := #[]
  staticTypes := #[]
  resolved := Array.replicate 124 none
  statics := none }

def pool1 : Array CpInfo := pool [(2, .class_ 4), (1, u "java/lang/Object"), (0, u "<init>"), (0, u "()V"), (0, .long 65535), (1, .methodref 10 11), (0, .class_ 12), (0, .nameAndType 13 14), (0, u "com/example/fides/fides/HybridTimestamp"), (0, u "of"), (0, u "(JI)Lcom/example/fides/fides/HybridTimestamp;"), (0, .methodref 10 16), (0, .nameAndType 17 18), (0, u "toString"), (0, u "()Ljava/lang/String;"), (0, .methodref 10 20), (0, .nameAndType 21 22), (0, u "parse"), (0, u "(Ljava/lang/String;)Lcom/example/fides/fides/HybridTimestamp;"), (0, .methodref 10 24), (0, .nameAndType 25 26), (0, u "millis"), (0, u "()J"), (0, .methodref 10 28), (0, .nameAndType 29 30), (0, u "counter"), (0, u "()I"), (0, .class_ 32), (0, u "com/example/fides/fides/HybridTimestampParsePinLaw"), (2, u "law"), (0, u "(J)Z")] 3

def k1m0 : Method := { name := "<init>", desc := "()V", sig := { parameters := [], returnType := none }, accessFlags := 1, code := none }
def k1c1 : Code := { maxStack := 4, maxLocals := 7, code := code, exceptionTable := #[], attributes := #[] }
def k1m1 : Method := { name := "law", desc := "(J)Z", sig := { parameters := [.long], returnType := some .boolean }, accessFlags := 9, code := some k1c1 }
/-- com/example/fides/fides/HybridTimestampParsePinLaw -/
def k1 : Class := { plain "com/example/fides/fides/HybridTimestampParsePinLaw" (some 0) with
  accessFlags := 49
  interfaces := #[]
  cf := some (fileOf pool1 31 #[] #[{ accessFlags := 1, nameIndex := 5, descriptorIndex := 6, attributes := #[] }, { accessFlags := 9, nameIndex := 35, descriptorIndex := 36, attributes := #[] }] 49 2 #[] #[])
  fields := #[]
  methods := #[k1m0, k1m1]
  instanceTypes := #[]
  staticTypes := #[]
  resolved := Array.replicate 40 none
  statics := none }

def pool2 : Array CpInfo := pool [(1, .class_ 2), (0, u "java/lang/Comparable"), (0, .class_ 4), (0, u "java/lang/Object")] 7

/-- java/lang/Comparable -/
def k2 : Class := { plain "java/lang/Comparable" (some 0) with
  accessFlags := 1537
  interfaces := #[]
  cf := some (fileOf pool2 1 #[] #[] 1537 3 #[] #[])
  fields := #[]
  methods := #[]
  instanceTypes := #[]
  staticTypes := #[]
  resolved := Array.replicate 12 none
  statics := none }

def pool3 : Array CpInfo := pool [(1, .class_ 2), (0, u "com/example/fides/fides/HybridTimestamp"), (0, .methodref 4 5), (0, .class_ 6), (0, .nameAndType 7 8), (0, u "java/lang/Object"), (0, u "<init>"), (0, u "()V"), (0, .fieldref 1 10), (0, .nameAndType 11 12), (0, u "bits"), (0, u "J"), (0, .string 14), (0, u "millis"), (0, .long 281474976710655), (1, .methodref 1 18), (0, .nameAndType 19 20), (0, u "requireInRange"), (0, u "(Ljava/lang/String;JJ)V"), (0, .string 22), (0, u "counter"), (0, .long 65535), (1, .methodref 1 26), (0, .nameAndType 7 27), (0, u "(J)V"), (0, .string 29), (0, u "text"), (0, .methodref 31 32), (0, .class_ 33), (0, .nameAndType 34 35), (0, u "java/util/Objects"), (0, u "requireNonNull"), (0, u "(Ljava/lang/Object;Ljava/lang/String;)Ljava/lang/Object;"), (0, .methodref 37 38), (0, .class_ 39), (0, .nameAndType 40 41), (0, u "java/lang/String"), (0, u "isEmpty"), (0, u "()Z"), (7, .methodref 37 50), (0, .nameAndType 51 52), (0, u "length"), (0, u "()I"), (0, .methodref 37 54), (0, .nameAndType 55 56), (0, u "charAt"), (0, u "(I)C"), (6, .fieldref 1 64), (0, .nameAndType 65 12), (0, u "MAX_VALUE_BEFORE_LAST_DIGIT"), (0, .methodref 67 68), (0, .class_ 69), (0, .nameAndType 70 71), (0, u "java/lang/Long"), (0, u "compareUnsigned"), (0, u "(JJ)I"), (0, .fieldref 1 73), (0, .nameAndType 74 75), (0, u "MAX_LAST_DIGIT"), (0, u "I"), (2, .methodref 67 79), (0, .nameAndType 80 81), (0, u "toUnsignedString"), (0, u "(J)Ljava/lang/String;"), (3, .long 10), (11, u "()J"), (38, .class_ 137), (0, u "java/lang/Comparable"), (0, u "COUNTER_BITS"), (2, u "MAX_MILLIS"), (0, u "MAX_COUNTER"), (3, u "of"), (0, u "(JI)Lcom/example/fides/fides/HybridTimestamp;"), (0, u "parse"), (0, u "(Ljava/lang/String;)Lcom/example/fides/fides/HybridTimestamp;"), (10, u "toString"), (0, u "()Ljava/lang/String;")] 30

def k3c0 : Code := { maxStack := 3, maxLocals := 3, code := prog_8_method_1_code, exceptionTable := #[], attributes := #[] }
def k3m0 : Method := { name := "<init>", desc := "(J)V", sig := { parameters := [.long], returnType := none }, accessFlags := 2, code := some k3c0 }
def k3c1 : Code := { maxStack := 6, maxLocals := 3, code := prog_8_method_2_code, exceptionTable := #[], attributes := #[] }
def k3m1 : Method := { name := "of", desc := "(JI)Lcom/example/fides/fides/HybridTimestamp;", sig := { parameters := [.long, .int], returnType := some (.object "com/example/fides/fides/HybridTimestamp") }, accessFlags := 9, code := some k3c1 }
def k3c2 : Code := { maxStack := 4, maxLocals := 6, code := prog_8_method_3_code, exceptionTable := #[], attributes := #[] }
def k3m2 : Method := { name := "parse", desc := "(Ljava/lang/String;)Lcom/example/fides/fides/HybridTimestamp;", sig := { parameters := [(.object "java/lang/String")], returnType := some (.object "com/example/fides/fides/HybridTimestamp") }, accessFlags := 9, code := some k3c2 }
def k3c3 : Code := { maxStack := 7, maxLocals := 5, code := prog_8_method_5_code, exceptionTable := #[], attributes := #[] }
def k3m3 : Method := { name := "requireInRange", desc := "(Ljava/lang/String;JJ)V", sig := { parameters := [(.object "java/lang/String"), .long, .long], returnType := none }, accessFlags := 10, code := some k3c3 }
def k3c4 : Code := { maxStack := 3, maxLocals := 1, code := prog_8_method_6_code, exceptionTable := #[], attributes := #[] }
def k3m4 : Method := { name := "millis", desc := "()J", sig := { parameters := [], returnType := some .long }, accessFlags := 1, code := some k3c4 }
def k3c5 : Code := { maxStack := 4, maxLocals := 1, code := prog_8_method_7_code, exceptionTable := #[], attributes := #[] }
def k3m5 : Method := { name := "counter", desc := "()I", sig := { parameters := [], returnType := some .int }, accessFlags := 1, code := some k3c5 }
def k3c6 : Code := { maxStack := 2, maxLocals := 1, code := prog_8_method_14_code, exceptionTable := #[], attributes := #[] }
def k3m6 : Method := { name := "toString", desc := "()Ljava/lang/String;", sig := { parameters := [], returnType := some (.object "java/lang/String") }, accessFlags := 1, code := some k3c6 }
/-- com/example/fides/fides/HybridTimestamp -/
def k3 : Class := { plain "com/example/fides/fides/HybridTimestamp" (some 0) with
  accessFlags := 49
  interfaces := #[2]
  cf := some (fileOf pool3 1 #[] #[{ accessFlags := 2, nameIndex := 7, descriptorIndex := 27, attributes := #[] }, { accessFlags := 9, nameIndex := 146, descriptorIndex := 147, attributes := #[] }, { accessFlags := 9, nameIndex := 148, descriptorIndex := 149, attributes := #[] }, { accessFlags := 10, nameIndex := 19, descriptorIndex := 20, attributes := #[] }, { accessFlags := 1, nameIndex := 14, descriptorIndex := 97, attributes := #[] }, { accessFlags := 1, nameIndex := 22, descriptorIndex := 52, attributes := #[] }, { accessFlags := 1, nameIndex := 160, descriptorIndex := 161, attributes := #[] }] 49 4 #[136] #[{ accessFlags := 26, nameIndex := 138, descriptorIndex := 75, attributes := #[] }, { accessFlags := 25, nameIndex := 141, descriptorIndex := 12, attributes := #[] }, { accessFlags := 25, nameIndex := 142, descriptorIndex := 75, attributes := #[] }, { accessFlags := 26, nameIndex := 65, descriptorIndex := 12, attributes := #[] }, { accessFlags := 26, nameIndex := 74, descriptorIndex := 75, attributes := #[] }, { accessFlags := 18, nameIndex := 11, descriptorIndex := 12, attributes := #[] }])
  fields := #[{ name := "COUNTER_BITS", type := .int, accessFlags := 26, slot := 0, constantValue := 0 }, { name := "MAX_MILLIS", type := .long, accessFlags := 25, slot := 1, constantValue := 0 }, { name := "MAX_COUNTER", type := .int, accessFlags := 25, slot := 2, constantValue := 0 }, { name := "MAX_VALUE_BEFORE_LAST_DIGIT", type := .long, accessFlags := 26, slot := 3, constantValue := 0 }, { name := "MAX_LAST_DIGIT", type := .int, accessFlags := 26, slot := 4, constantValue := 0 }, { name := "bits", type := .long, accessFlags := 18, slot := 0, constantValue := 0 }]
  methods := #[k3m0, k3m1, k3m2, k3m3, k3m4, k3m5, k3m6]
  instanceTypes := #[.long]
  staticTypes := #[.int, .long, .int, .long, .int]
  resolved := Array.replicate 192 none
  statics := some 0 }

def pool4 : Array CpInfo := pool [(1, .class_ 2), (0, u "java/io/Serializable"), (0, .class_ 4), (0, u "java/lang/Object")] 2

/-- java/io/Serializable -/
def k4 : Class := { plain "java/io/Serializable" (some 0) with
  accessFlags := 1537
  interfaces := #[]
  cf := some (fileOf pool4 1 #[] #[] 1537 3 #[] #[])
  fields := #[]
  methods := #[]
  instanceTypes := #[]
  staticTypes := #[]
  resolved := Array.replicate 7 none
  statics := none }

def pool5 : Array CpInfo := pool [(2, .class_ 4), (1, u "java/lang/CharSequence"), (42, .class_ 48), (0, u "java/lang/CharSequence$1CodePointIterator"), (10, .class_ 60), (0, u "java/lang/CharSequence$1CharIterator"), (5, .class_ 67), (0, u "java/lang/Object")] 63

/-- java/lang/CharSequence -/
def k5 : Class := { plain "java/lang/CharSequence" (some 0) with
  accessFlags := 1537
  interfaces := #[]
  cf := some (fileOf pool5 2 #[.nestMembers #[47, 59]] #[] 1537 66 #[] #[])
  fields := #[]
  methods := #[]
  instanceTypes := #[]
  staticTypes := #[]
  resolved := Array.replicate 131 none
  statics := none }

def pool6 : Array CpInfo := pool [(1, .class_ 2), (0, u "java/lang/constant/Constable"), (0, .class_ 4), (0, u "java/lang/Object")] 6

/-- java/lang/constant/Constable -/
def k6 : Class := { plain "java/lang/constant/Constable" (some 0) with
  accessFlags := 1537
  interfaces := #[]
  cf := some (fileOf pool6 1 #[] #[] 1537 3 #[] #[])
  fields := #[]
  methods := #[]
  instanceTypes := #[]
  staticTypes := #[]
  resolved := Array.replicate 11 none
  statics := none }

def pool7 : Array CpInfo := pool [(1, .class_ 2), (0, u "java/lang/constant/ConstantDesc"), (0, .class_ 4), (0, u "java/lang/Object")] 32

/-- java/lang/constant/ConstantDesc -/
def k7 : Class := { plain "java/lang/constant/ConstantDesc" (some 0) with
  accessFlags := 1537
  interfaces := #[]
  cf := some (fileOf pool7 1 #[] #[] 1537 3 #[] #[])
  fields := #[]
  methods := #[]
  instanceTypes := #[]
  staticTypes := #[]
  resolved := Array.replicate 37 none
  statics := none }

def pool8 : Array CpInfo := pool [(1, .methodref 2 3), (0, .class_ 4), (0, .nameAndType 5 6), (0, u "java/lang/Object"), (0, u "<init>"), (0, u "()V"), (2, .fieldref 10 11), (0, .class_ 12), (0, .nameAndType 13 14), (0, u "java/lang/String"), (0, u "value"), (0, u "[B"), (0, .fieldref 10 16), (0, .nameAndType 17 18), (0, u "coder"), (0, u "B"), (2, u "hash"), (0, u "I"), (2, u "hashIsZero"), (0, u "Z"), (11, .fieldref 10 39), (0, .nameAndType 40 26), (0, u "COMPACT_STRINGS"), (13, .methodref 55 56), (0, .class_ 57), (0, .nameAndType 58 59), (0, u "java/util/Arrays"), (0, u "copyOfRange"), (0, u "([BII)[B"), (47, .class_ 109), (1, u "java/lang/StringLatin1"), (32, u "()Z"), (50, .class_ 195), (1, u "java/lang/System"), (15, u "([BB)V"), (0, .methodref 193 213), (0, .nameAndType 214 215), (0, u "arraycopy"), (0, u "(Ljava/lang/Object;ILjava/lang/Object;II)V"), (118, u "()I"), (0, .methodref 10 336), (0, .nameAndType 17 337), (0, u "()B"), (2, u "()[B"), (22, u "([BI)C"), (27, u "(II)V"), (35, u "(I)C"), (61, .methodref 10 490), (0, .nameAndType 5 491), (0, u "(Ljava/lang/AbstractStringBuilder;Ljava/lang/Void;)V"), (0, .methodref 10 493), (0, .nameAndType 494 142), (0, u "isLatin1"), (0, .methodref 107 496), (0, .nameAndType 497 363), (0, u "charAt"), (3, u "checkIndex"), (4, .nameAndType 507 334), (0, u "length"), (24, u "getBytes"), (16, .methodref 550 506), (0, .class_ 551), (0, u "java/lang/AbstractStringBuilder"), (0, .methodref 550 553), (0, .nameAndType 554 340), (0, u "getValue"), (20, .class_ 576), (0, u "java/lang/CharSequence"), (22, u "CASE_INSENSITIVE_ORDER"), (0, u "Ljava/util/Comparator;"), (91, u "isEmpty"), (128, u "([BIB)V"), (225, .methodref 550 493), (5, .fieldref 1054 1055), (0, .class_ 1056), (0, .nameAndType 1057 1058), (0, u "jdk/internal/util/Preconditions"), (0, u "SIOOBE_FORMATTER"), (0, u "Ljava/util/function/BiFunction;"), (0, .methodref 1054 1060), (0, .nameAndType 501 1061), (0, u "(IILjava/util/function/BiFunction;)I"), (39, u "serialPersistentFields"), (0, u "[Ljava/io/ObjectStreamField;"), (0, .class_ 1104), (0, u "java/lang/String$CaseInsensitiveComparator"), (1, .class_ 1107), (0, u "java/io/Serializable"), (0, .class_ 1109), (0, u "java/lang/Comparable"), (0, .class_ 1111), (0, u "java/lang/constant/Constable"), (0, .class_ 1113), (0, u "java/lang/constant/ConstantDesc"), (2, u "serialVersionUID"), (0, u "J"), (3, u "REPL"), (0, u "C"), (2, u "LATIN1"), (1, u "UTF16"), (105, u "(Ljava/lang/StringBuilder;)V")] 217

def k8m0 : Method := { name := "<init>", desc := "()V", sig := { parameters := [], returnType := none }, accessFlags := 1, code := none }
def k8c1 : Code := { maxStack := 3, maxLocals := 2, code := jdk_42_method_53_code, exceptionTable := #[], attributes := #[] }
def k8m1 : Method := { name := "<init>", desc := "(Ljava/lang/StringBuilder;)V", sig := { parameters := [(.object "java/lang/StringBuilder")], returnType := none }, accessFlags := 1, code := some k8c1 }
def k8c2 : Code := { maxStack := 2, maxLocals := 1, code := jdk_42_method_54_code, exceptionTable := #[], attributes := #[] }
def k8m2 : Method := { name := "length", desc := "()I", sig := { parameters := [], returnType := some .int }, accessFlags := 1, code := some k8c2 }
def k8c3 : Code := { maxStack := 1, maxLocals := 1, code := jdk_42_method_55_code, exceptionTable := #[], attributes := #[] }
def k8m3 : Method := { name := "isEmpty", desc := "()Z", sig := { parameters := [], returnType := some .boolean }, accessFlags := 1, code := some k8c3 }
def k8c4 : Code := { maxStack := 2, maxLocals := 2, code := jdk_42_method_56_code, exceptionTable := #[], attributes := #[] }
def k8m4 : Method := { name := "charAt", desc := "(I)C", sig := { parameters := [.int], returnType := some .char }, accessFlags := 1, code := some k8c4 }
def k8c5 : Code := { maxStack := 5, maxLocals := 4, code := jdk_42_method_147_code, exceptionTable := #[], attributes := #[] }
def k8m5 : Method := { name := "getBytes", desc := "([BIB)V", sig := { parameters := [(.array .byte), .int, .byte], returnType := none }, accessFlags := 0, code := some k8c5 }
def k8c6 : Code := { maxStack := 5, maxLocals := 5, code := jdk_42_method_150_code, exceptionTable := #[], attributes := #[] }
def k8m6 : Method := { name := "<init>", desc := "(Ljava/lang/AbstractStringBuilder;Ljava/lang/Void;)V", sig := { parameters := [(.object "java/lang/AbstractStringBuilder"), (.object "java/lang/Void")], returnType := none }, accessFlags := 0, code := some k8c6 }
def k8c7 : Code := { maxStack := 2, maxLocals := 3, code := jdk_42_method_151_code, exceptionTable := #[], attributes := #[] }
def k8m7 : Method := { name := "<init>", desc := "([BB)V", sig := { parameters := [(.array .byte), .byte], returnType := none }, accessFlags := 0, code := some k8c7 }
def k8c8 : Code := { maxStack := 1, maxLocals := 1, code := jdk_42_method_152_code, exceptionTable := #[], attributes := #[] }
def k8m8 : Method := { name := "coder", desc := "()B", sig := { parameters := [], returnType := some .byte }, accessFlags := 0, code := some k8c8 }
def k8c9 : Code := { maxStack := 1, maxLocals := 1, code := jdk_42_method_154_code, exceptionTable := #[], attributes := #[] }
def k8m9 : Method := { name := "isLatin1", desc := "()Z", sig := { parameters := [], returnType := some .boolean }, accessFlags := 0, code := some k8c9 }
def k8c10 : Code := { maxStack := 3, maxLocals := 2, code := jdk_42_method_155_code, exceptionTable := #[], attributes := #[] }
def k8m10 : Method := { name := "checkIndex", desc := "(II)V", sig := { parameters := [.int, .int], returnType := none }, accessFlags := 8, code := some k8c10 }
/-- java/lang/String -/
def k8 : Class := { plain "java/lang/String" (some 0) with
  accessFlags := 49
  interfaces := #[4, 2, 5, 6, 7]
  cf := some (fileOf pool8 10 #[.nestMembers #[1103]] #[{ accessFlags := 1, nameIndex := 5, descriptorIndex := 6, attributes := #[] }, { accessFlags := 1, nameIndex := 5, descriptorIndex := 1233, attributes := #[] }, { accessFlags := 1, nameIndex := 507, descriptorIndex := 334, attributes := #[] }, { accessFlags := 1, nameIndex := 692, descriptorIndex := 142, attributes := #[] }, { accessFlags := 1, nameIndex := 497, descriptorIndex := 427, attributes := #[] }, { accessFlags := 0, nameIndex := 532, descriptorIndex := 821, attributes := #[] }, { accessFlags := 0, nameIndex := 5, descriptorIndex := 491, attributes := #[] }, { accessFlags := 0, nameIndex := 5, descriptorIndex := 211, attributes := #[] }, { accessFlags := 0, nameIndex := 17, descriptorIndex := 337, attributes := #[] }, { accessFlags := 0, nameIndex := 494, descriptorIndex := 142, attributes := #[] }, { accessFlags := 8, nameIndex := 501, descriptorIndex := 391, attributes := #[] }] 49 2 #[1106, 1108, 575, 1110, 1112] #[{ accessFlags := 18, nameIndex := 13, descriptorIndex := 14, attributes := #[] }, { accessFlags := 18, nameIndex := 17, descriptorIndex := 18, attributes := #[] }, { accessFlags := 2, nameIndex := 21, descriptorIndex := 22, attributes := #[] }, { accessFlags := 2, nameIndex := 25, descriptorIndex := 26, attributes := #[] }, { accessFlags := 26, nameIndex := 1116, descriptorIndex := 1117, attributes := #[] }, { accessFlags := 24, nameIndex := 40, descriptorIndex := 26, attributes := #[] }, { accessFlags := 26, nameIndex := 1101, descriptorIndex := 1102, attributes := #[] }, { accessFlags := 26, nameIndex := 1121, descriptorIndex := 1122, attributes := #[] }, { accessFlags := 25, nameIndex := 599, descriptorIndex := 600, attributes := #[] }, { accessFlags := 24, nameIndex := 1125, descriptorIndex := 18, attributes := #[] }, { accessFlags := 24, nameIndex := 1127, descriptorIndex := 18, attributes := #[] }])
  fields := #[{ name := "value", type := (.array .byte), accessFlags := 18, slot := 0, constantValue := 0 }, { name := "coder", type := .byte, accessFlags := 18, slot := 1, constantValue := 0 }, { name := "hash", type := .int, accessFlags := 2, slot := 2, constantValue := 0 }, { name := "hashIsZero", type := .boolean, accessFlags := 2, slot := 3, constantValue := 0 }, { name := "serialVersionUID", type := .long, accessFlags := 26, slot := 0, constantValue := 0 }, { name := "COMPACT_STRINGS", type := .boolean, accessFlags := 24, slot := 1, constantValue := 0 }, { name := "serialPersistentFields", type := (.array (.object "java/io/ObjectStreamField")), accessFlags := 26, slot := 2, constantValue := 0 }, { name := "REPL", type := .char, accessFlags := 26, slot := 3, constantValue := 0 }, { name := "CASE_INSENSITIVE_ORDER", type := (.object "java/util/Comparator"), accessFlags := 25, slot := 4, constantValue := 0 }, { name := "LATIN1", type := .byte, accessFlags := 24, slot := 5, constantValue := 0 }, { name := "UTF16", type := .byte, accessFlags := 24, slot := 6, constantValue := 0 }]
  methods := #[k8m0, k8m1, k8m2, k8m3, k8m4, k8m5, k8m6, k8m7, k8m8, k8m9, k8m10]
  instanceTypes := #[(.array .byte), .byte, .int, .boolean]
  staticTypes := #[.long, .boolean, (.array (.object "java/io/ObjectStreamField")), .char, (.object "java/util/Comparator"), .byte, .byte]
  resolved := Array.replicate 1451 none
  statics := some 1 }

def pool9 : Array CpInfo := pool [(2, .class_ 4), (1, u "java/lang/Object"), (0, u "<init>"), (0, u "()V"), (1, .class_ 10), (1, u "java/lang/Number"), (2, .class_ 14), (0, u "java/io/Serializable"), (0, u "serialVersionUID"), (0, u "J")] 20

def k9m0 : Method := { name := "<init>", desc := "()V", sig := { parameters := [], returnType := none }, accessFlags := 1, code := none }
/-- java/lang/Number -/
def k9 : Class := { plain "java/lang/Number" (some 0) with
  accessFlags := 1057
  interfaces := #[4]
  cf := some (fileOf pool9 8 #[] #[{ accessFlags := 1, nameIndex := 5, descriptorIndex := 6, attributes := #[] }] 1057 2 #[13] #[{ accessFlags := 26, nameIndex := 15, descriptorIndex := 16, attributes := #[] }])
  fields := #[{ name := "serialVersionUID", type := .long, accessFlags := 26, slot := 0, constantValue := 0 }]
  methods := #[k9m0]
  instanceTypes := #[]
  staticTypes := #[.long]
  resolved := Array.replicate 37 none
  statics := none }

def pool10 : Array CpInfo := pool [(1, .class_ 2), (0, u "java/lang/Long"), (2, .class_ 6), (0, u "java/lang/String"), (2, .methodref 1 10), (0, .nameAndType 11 12), (0, u "toString"), (0, u "(J)Ljava/lang/String;"), (0, .fieldref 5 14), (0, .nameAndType 15 16), (0, u "COMPACT_STRINGS"), (0, u "Z"), (1, .class_ 20), (1, u "java/lang/Integer"), (11, u "(JI)Ljava/lang/String;"), (7, .methodref 1 41), (0, .nameAndType 11 32), (9, .long 5), (1, .long 10), (1, .class_ 56), (0, u "java/lang/StringBuilder"), (0, .methodref 55 58), (0, .nameAndType 59 60), (0, u "<init>"), (0, u "()V"), (0, .methodref 55 62), (0, .nameAndType 63 64), (0, u "append"), (0, u "(Ljava/lang/String;)Ljava/lang/StringBuilder;"), (0, .methodref 55 66), (0, .nameAndType 63 67), (0, u "(J)Ljava/lang/StringBuilder;"), (0, .methodref 55 69), (0, .nameAndType 11 70), (0, u "()Ljava/lang/String;"), (30, u "(J)I"), (10, .methodref 5 113), (0, .nameAndType 59 114), (0, u "([BB)V"), (3, .methodref 1 119), (0, .nameAndType 120 101), (0, u "stringSize"), (0, .methodref 1 122), (0, .nameAndType 123 124), (0, u "getChars"), (0, u "(JI[B)I"), (1, .methodref 1 127), (0, .nameAndType 128 32), (0, u "toUnsignedString"), (0, .long 18446744071562067968), (1, .long 100), (1, .fieldref 18 134), (0, .nameAndType 135 136), (0, u "DigitOnes"), (0, u "[B"), (0, .fieldref 18 138), (0, .nameAndType 139 136), (0, u "DigitTens"), (0, .long 18446744073709551606), (27, .long 9223372036854775808), (66, .class_ 237), (1, u "java/lang/Long$LongCache"), (33, .class_ 272), (0, u "java/lang/Number"), (2, u "value"), (0, u "J"), (25, .methodref 1 303), (0, .nameAndType 304 305), (0, u "compare"), (0, u "(JJ)I"), (55, u "TYPE"), (0, u "Ljava/lang/Class;"), (0, .class_ 364), (0, u "java/lang/Comparable"), (0, .class_ 366), (0, u "java/lang/constant/Constable"), (0, .class_ 368), (0, u "java/lang/constant/ConstantDesc"), (0, u "MIN_VALUE"), (1, u "MAX_VALUE"), (4, u "SIZE"), (0, u "I"), (1, u "BYTES"), (1, u "serialVersionUID"), (87, u "compareUnsigned")] 54

def k10c0 : Code := { maxStack := 7, maxLocals := 6, code := jdk_35_method_1_code, exceptionTable := #[], attributes := #[] }
def k10m0 : Method := { name := "toString", desc := "(JI)Ljava/lang/String;", sig := { parameters := [.long, .int], returnType := some (.object "java/lang/String") }, accessFlags := 9, code := some k10c0 }
def k10c1 : Code := { maxStack := 6, maxLocals := 7, code := jdk_35_method_3_code, exceptionTable := #[], attributes := #[] }
def k10m1 : Method := { name := "toUnsignedString", desc := "(JI)Ljava/lang/String;", sig := { parameters := [.long, .int], returnType := some (.object "java/lang/String") }, accessFlags := 9, code := some k10c1 }
def k10c2 : Code := { maxStack := 4, maxLocals := 4, code := jdk_35_method_12_code, exceptionTable := #[], attributes := #[] }
def k10m2 : Method := { name := "toString", desc := "(J)Ljava/lang/String;", sig := { parameters := [.long], returnType := some (.object "java/lang/String") }, accessFlags := 9, code := some k10c2 }
def k10c3 : Code := { maxStack := 3, maxLocals := 2, code := jdk_35_method_13_code, exceptionTable := #[], attributes := #[] }
def k10m3 : Method := { name := "toUnsignedString", desc := "(J)Ljava/lang/String;", sig := { parameters := [.long], returnType := some (.object "java/lang/String") }, accessFlags := 9, code := some k10c3 }
def k10c4 : Code := { maxStack := 4, maxLocals := 11, code := jdk_35_method_14_code, exceptionTable := #[], attributes := #[] }
def k10m4 : Method := { name := "getChars", desc := "(JI[B)I", sig := { parameters := [.long, .int, (.array .byte)], returnType := some .int }, accessFlags := 8, code := some k10c4 }
def k10c5 : Code := { maxStack := 4, maxLocals := 6, code := jdk_35_method_15_code, exceptionTable := #[], attributes := #[] }
def k10m5 : Method := { name := "stringSize", desc := "(J)I", sig := { parameters := [.long], returnType := some .int }, accessFlags := 8, code := some k10c5 }
def k10c6 : Code := { maxStack := 4, maxLocals := 4, code := jdk_35_method_42_code, exceptionTable := #[], attributes := #[] }
def k10m6 : Method := { name := "compare", desc := "(JJ)I", sig := { parameters := [.long, .long], returnType := some .int }, accessFlags := 9, code := some k10c6 }
def k10c7 : Code := { maxStack := 6, maxLocals := 4, code := jdk_35_method_43_code, exceptionTable := #[], attributes := #[] }
def k10m7 : Method := { name := "compareUnsigned", desc := "(JJ)I", sig := { parameters := [.long, .long], returnType := some .int }, accessFlags := 9, code := some k10c7 }
/-- java/lang/Long -/
def k10 : Class := { plain "java/lang/Long" (some 9) with
  accessFlags := 49
  interfaces := #[2, 6, 7]
  cf := some (fileOf pool10 1 #[.nestMembers #[235]] #[{ accessFlags := 9, nameIndex := 11, descriptorIndex := 32, attributes := #[] }, { accessFlags := 9, nameIndex := 128, descriptorIndex := 32, attributes := #[] }, { accessFlags := 9, nameIndex := 11, descriptorIndex := 12, attributes := #[] }, { accessFlags := 9, nameIndex := 128, descriptorIndex := 12, attributes := #[] }, { accessFlags := 8, nameIndex := 123, descriptorIndex := 124, attributes := #[] }, { accessFlags := 8, nameIndex := 120, descriptorIndex := 101, attributes := #[] }, { accessFlags := 9, nameIndex := 304, descriptorIndex := 305, attributes := #[] }, { accessFlags := 9, nameIndex := 469, descriptorIndex := 305, attributes := #[] }] 49 271 #[363, 365, 367] #[{ accessFlags := 25, nameIndex := 369, descriptorIndex := 276, attributes := #[] }, { accessFlags := 25, nameIndex := 371, descriptorIndex := 276, attributes := #[] }, { accessFlags := 25, nameIndex := 361, descriptorIndex := 362, attributes := #[] }, { accessFlags := 18, nameIndex := 275, descriptorIndex := 276, attributes := #[] }, { accessFlags := 25, nameIndex := 376, descriptorIndex := 377, attributes := #[] }, { accessFlags := 25, nameIndex := 379, descriptorIndex := 377, attributes := #[] }, { accessFlags := 26, nameIndex := 381, descriptorIndex := 276, attributes := #[] }])
  fields := #[{ name := "MIN_VALUE", type := .long, accessFlags := 25, slot := 0, constantValue := 0 }, { name := "MAX_VALUE", type := .long, accessFlags := 25, slot := 1, constantValue := 0 }, { name := "TYPE", type := (.object "java/lang/Class"), accessFlags := 25, slot := 2, constantValue := 0 }, { name := "value", type := .long, accessFlags := 18, slot := 0, constantValue := 0 }, { name := "SIZE", type := .int, accessFlags := 25, slot := 3, constantValue := 0 }, { name := "BYTES", type := .int, accessFlags := 25, slot := 4, constantValue := 0 }, { name := "serialVersionUID", type := .long, accessFlags := 26, slot := 5, constantValue := 0 }]
  methods := #[k10m0, k10m1, k10m2, k10m3, k10m4, k10m5, k10m6, k10m7]
  instanceTypes := #[.long]
  staticTypes := #[.long, .long, (.object "java/lang/Class"), .int, .int, .long]
  resolved := Array.replicate 524 none
  statics := none }

def pool11 : Array CpInfo := pool [(1, .class_ 2), (0, u "java/lang/Integer"), (16, u "digits"), (0, u "[C"), (64, u "DigitOnes"), (0, u "[B"), (2, u "DigitTens"), (99, .class_ 190), (0, u "java/lang/Integer$IntegerCache"), (3, u "I"), (8, .class_ 204), (0, u "java/lang/Number"), (2, u "value"), (94, u "TYPE"), (0, u "Ljava/lang/Class;"), (0, .class_ 305), (0, u "java/lang/Comparable"), (0, .class_ 307), (0, u "java/lang/constant/Constable"), (0, .class_ 309), (0, u "java/lang/constant/ConstantDesc"), (0, u "MIN_VALUE"), (1, u "MAX_VALUE"), (3, u "SIZE"), (1, u "BYTES"), (1, u "serialVersionUID"), (0, u "J")] 131

/-- java/lang/Integer -/
def k11 : Class := { plain "java/lang/Integer" (some 9) with
  accessFlags := 49
  interfaces := #[2, 6, 7]
  cf := some (fileOf pool11 1 #[.nestMembers #[189]] #[] 49 203 #[304, 306, 308] #[{ accessFlags := 25, nameIndex := 310, descriptorIndex := 194, attributes := #[] }, { accessFlags := 25, nameIndex := 312, descriptorIndex := 194, attributes := #[] }, { accessFlags := 25, nameIndex := 302, descriptorIndex := 303, attributes := #[] }, { accessFlags := 24, nameIndex := 19, descriptorIndex := 20, attributes := #[] }, { accessFlags := 24, nameIndex := 89, descriptorIndex := 86, attributes := #[] }, { accessFlags := 24, nameIndex := 85, descriptorIndex := 86, attributes := #[] }, { accessFlags := 18, nameIndex := 207, descriptorIndex := 194, attributes := #[] }, { accessFlags := 25, nameIndex := 316, descriptorIndex := 194, attributes := #[] }, { accessFlags := 25, nameIndex := 318, descriptorIndex := 194, attributes := #[] }, { accessFlags := 26, nameIndex := 320, descriptorIndex := 321, attributes := #[] }])
  fields := #[{ name := "MIN_VALUE", type := .int, accessFlags := 25, slot := 0, constantValue := 0 }, { name := "MAX_VALUE", type := .int, accessFlags := 25, slot := 1, constantValue := 0 }, { name := "TYPE", type := (.object "java/lang/Class"), accessFlags := 25, slot := 2, constantValue := 0 }, { name := "digits", type := (.array .char), accessFlags := 24, slot := 3, constantValue := 0 }, { name := "DigitTens", type := (.array .byte), accessFlags := 24, slot := 4, constantValue := 0 }, { name := "DigitOnes", type := (.array .byte), accessFlags := 24, slot := 5, constantValue := 0 }, { name := "value", type := .int, accessFlags := 18, slot := 0, constantValue := 0 }, { name := "SIZE", type := .int, accessFlags := 25, slot := 6, constantValue := 0 }, { name := "BYTES", type := .int, accessFlags := 25, slot := 7, constantValue := 0 }, { name := "serialVersionUID", type := .long, accessFlags := 26, slot := 8, constantValue := 0 }]
  methods := #[]
  instanceTypes := #[.int]
  staticTypes := #[.int, .int, (.object "java/lang/Class"), (.array .char), (.array .byte), (.array .byte), .int, .int, .long]
  resolved := Array.replicate 453 none
  statics := some 2 }

def pool12 : Array CpInfo := pool [(2, .class_ 4), (1, u "java/lang/Object"), (0, u "<init>"), (0, u "()V"), (35, .class_ 44), (1, u "java/util/Objects"), (0, u "requireNonNull"), (48, u "(Ljava/lang/Object;Ljava/lang/String;)Ljava/lang/Object;")] 89

def k12m0 : Method := { name := "<init>", desc := "()V", sig := { parameters := [], returnType := none }, accessFlags := 2, code := none }
def k12c1 : Code := { maxStack := 3, maxLocals := 2, code := jdk_31_method_11_code, exceptionTable := #[], attributes := #[] }
def k12m1 : Method := { name := "requireNonNull", desc := "(Ljava/lang/Object;Ljava/lang/String;)Ljava/lang/Object;", sig := { parameters := [(.object "java/lang/Object"), (.object "java/lang/String")], returnType := some (.object "java/lang/Object") }, accessFlags := 9, code := some k12c1 }
/-- java/util/Objects -/
def k12 : Class := { plain "java/util/Objects" (some 0) with
  accessFlags := 49
  interfaces := #[]
  cf := some (fileOf pool12 42 #[] #[{ accessFlags := 2, nameIndex := 5, descriptorIndex := 6, attributes := #[] }, { accessFlags := 9, nameIndex := 45, descriptorIndex := 94, attributes := #[] }] 49 2 #[] #[])
  fields := #[]
  methods := #[k12m0, k12m1]
  instanceTypes := #[]
  staticTypes := #[]
  resolved := Array.replicate 184 none
  statics := none }

def pool13 : Array CpInfo := pool [(1, .class_ 2), (0, u "java/lang/String"), (1, .class_ 6), (1, u "java/lang/Object"), (0, u "<init>"), (0, u "()V"), (0, .methodref 1 10), (0, .nameAndType 11 12), (0, u "checkIndex"), (0, u "(II)V"), (1, .class_ 16), (1, u "java/lang/StringLatin1"), (36, u "([BI)C"), (67, u "$assertionsDisabled"), (0, u "Z"), (98, .class_ 223), (1, u "java/lang/StringLatin1$LinesSpliterator"), (28, u "charAt"), (137, .class_ 391), (0, u "java/lang/StringLatin1$CharsSpliterator")] 3

def k13m0 : Method := { name := "<init>", desc := "()V", sig := { parameters := [], returnType := none }, accessFlags := 0, code := none }
def k13c1 : Code := { maxStack := 2, maxLocals := 2, code := jdk_43_method_2_code, exceptionTable := #[], attributes := #[] }
def k13m1 : Method := { name := "charAt", desc := "([BI)C", sig := { parameters := [(.array .byte), .int], returnType := some .char }, accessFlags := 9, code := some k13c1 }
/-- java/lang/StringLatin1 -/
def k13 : Class := { plain "java/lang/StringLatin1" (some 0) with
  accessFlags := 48
  interfaces := #[]
  cf := some (fileOf pool13 14 #[.nestMembers #[390, 221]] #[{ accessFlags := 0, nameIndex := 7, descriptorIndex := 8, attributes := #[] }, { accessFlags := 9, nameIndex := 252, descriptorIndex := 53, attributes := #[] }] 48 4 #[] #[{ accessFlags := 4120, nameIndex := 121, descriptorIndex := 122, attributes := #[] }])
  fields := #[{ name := "$assertionsDisabled", type := .boolean, accessFlags := 4120, slot := 0, constantValue := 0 }]
  methods := #[k13m0, k13m1]
  instanceTypes := #[]
  staticTypes := #[.boolean]
  resolved := Array.replicate 395 none
  statics := none }

def pool14 : Array CpInfo := pool [(2, .class_ 4), (1, u "java/lang/Object"), (0, u "<init>"), (0, u "()V"), (17, .class_ 26), (1, u "jdk/internal/util/Preconditions"), (6, u "checkIndex"), (21, .class_ 56), (0, u "jdk/internal/util/Preconditions$4"), (57, .class_ 115), (0, u "jdk/internal/util/Preconditions$1"), (7, u "SIOOBE_FORMATTER"), (0, u "Ljava/util/function/BiFunction;"), (0, .class_ 126), (0, u "jdk/internal/util/Preconditions$2"), (3, u "AIOOBE_FORMATTER"), (0, .class_ 132), (0, u "jdk/internal/util/Preconditions$3"), (3, u "IOOBE_FORMATTER"), (41, u "(IILjava/util/function/BiFunction;)I")] 15

def k14m0 : Method := { name := "<init>", desc := "()V", sig := { parameters := [], returnType := none }, accessFlags := 1, code := none }
def k14c1 : Code := { maxStack := 3, maxLocals := 3, code := jdk_41_method_11_code, exceptionTable := #[], attributes := #[] }
def k14m1 : Method := { name := "checkIndex", desc := "(IILjava/util/function/BiFunction;)I", sig := { parameters := [.int, .int, (.object "java/util/function/BiFunction")], returnType := some .int }, accessFlags := 9, code := some k14c1 }
/-- jdk/internal/util/Preconditions -/
def k14 : Class := { plain "jdk/internal/util/Preconditions" (some 0) with
  accessFlags := 33
  interfaces := #[]
  cf := some (fileOf pool14 24 #[.nestMembers #[55, 131, 125, 114]] #[{ accessFlags := 1, nameIndex := 5, descriptorIndex := 6, attributes := #[] }, { accessFlags := 9, nameIndex := 33, descriptorIndex := 178, attributes := #[] }] 33 2 #[] #[{ accessFlags := 25, nameIndex := 123, descriptorIndex := 124, attributes := #[] }, { accessFlags := 25, nameIndex := 130, descriptorIndex := 124, attributes := #[] }, { accessFlags := 25, nameIndex := 136, descriptorIndex := 124, attributes := #[] }])
  fields := #[{ name := "SIOOBE_FORMATTER", type := (.object "java/util/function/BiFunction"), accessFlags := 25, slot := 0, constantValue := 0 }, { name := "AIOOBE_FORMATTER", type := (.object "java/util/function/BiFunction"), accessFlags := 25, slot := 1, constantValue := 0 }, { name := "IOOBE_FORMATTER", type := (.object "java/util/function/BiFunction"), accessFlags := 25, slot := 2, constantValue := 0 }]
  methods := #[k14m0, k14m1]
  instanceTypes := #[]
  staticTypes := #[(.object "java/util/function/BiFunction"), (.object "java/util/function/BiFunction"), (.object "java/util/function/BiFunction")]
  resolved := Array.replicate 194 none
  statics := some 3 }

def pool15 : Array CpInfo := pool [(1, .class_ 2), (0, u "java/lang/Appendable"), (0, .class_ 4), (0, u "java/lang/Object")] 9

/-- java/lang/Appendable -/
def k15 : Class := { plain "java/lang/Appendable" (some 0) with
  accessFlags := 1537
  interfaces := #[]
  cf := some (fileOf pool15 1 #[] #[] 1537 3 #[] #[])
  fields := #[]
  methods := #[]
  instanceTypes := #[]
  staticTypes := #[]
  resolved := Array.replicate 14 none
  statics := none }

def pool16 : Array CpInfo := pool [(1, .class_ 2), (0, u "java/lang/String"), (0, .methodref 4 5), (0, .class_ 6), (0, .nameAndType 7 8), (0, u "java/lang/Object"), (0, u "<init>"), (0, u "()V"), (1, .class_ 12), (1, u "java/lang/AbstractStringBuilder"), (0, u "EMPTYVALUE"), (0, u "[B"), (0, .fieldref 10 16), (0, .nameAndType 17 14), (0, u "value"), (0, .fieldref 1 19), (0, .nameAndType 20 21), (0, u "COMPACT_STRINGS"), (0, u "Z"), (0, .fieldref 10 23), (0, .nameAndType 24 25), (0, u "coder"), (0, u "B"), (6, .methodref 1 33), (0, .nameAndType 34 35), (0, u "length"), (0, u "()I"), (3, .integer 2147483647), (0, .methodref 1 41), (0, .nameAndType 24 42), (0, u "()B"), (2, u "append"), (0, u "(Ljava/lang/String;)Ljava/lang/AbstractStringBuilder;"), (1, .class_ 49), (0, u "java/lang/CharSequence"), (19, u "(Ljava/lang/String;)V"), (5, u "maybeLatin1"), (3, .fieldref 10 80), (0, .nameAndType 81 82), (0, u "count"), (0, u "I"), (0, .methodref 10 84), (0, .nameAndType 85 86), (0, u "isLatin1"), (0, u "()Z"), (13, .methodref 10 101), (0, .nameAndType 102 103), (0, u "ensureCapacityInternal"), (0, u "(I)V"), (0, .methodref 10 105), (0, .nameAndType 106 107), (0, u "newCapacity"), (0, u "(I)I"), (0, .methodref 109 110), (0, .class_ 111), (0, .nameAndType 112 113), (0, u "java/util/Arrays"), (0, u "copyOf"), (0, u "([BI)[B"), (0, .methodref 115 116), (0, .class_ 117), (0, .nameAndType 118 119), (0, u "jdk/internal/util/ArraysSupport"), (0, u "newLength"), (0, u "(III)I"), (68, u "getChars"), (19, .methodref 10 209), (0, .nameAndType 210 211), (0, u "putStringAt"), (0, u "(ILjava/lang/String;)V"), (5, u "inflateIfNeededFor"), (2, .nameAndType 221 222), (0, u "getBytes"), (0, u "([BIB)V"), (24, u "stringSize"), (6, .methodref 255 256), (0, .class_ 257), (0, .nameAndType 247 258), (0, u "java/lang/Long"), (0, u "(J)I"), (0, .methodref 255 260), (0, .nameAndType 188 261), (0, u "(JI[B)I"), (135, .methodref 10 398), (0, .nameAndType 217 69), (0, .methodref 1 220), (3, u "()[B"), (40, .class_ 445), (0, u "java/lang/Appendable"), (67, u "(J)Ljava/lang/AbstractStringBuilder;"), (38, u "getValue")] 56

def k16m0 : Method := { name := "<init>", desc := "()V", sig := { parameters := [], returnType := none }, accessFlags := 0, code := none }
def k16c1 : Code := { maxStack := 2, maxLocals := 2, code := jdk_68_method_2_code, exceptionTable := #[], attributes := #[] }
def k16m1 : Method := { name := "<init>", desc := "(I)V", sig := { parameters := [.int], returnType := none }, accessFlags := 0, code := some k16c1 }
def k16c2 : Code := { maxStack := 1, maxLocals := 1, code := jdk_68_method_6_code, exceptionTable := #[], attributes := #[] }
def k16m2 : Method := { name := "length", desc := "()I", sig := { parameters := [], returnType := some .int }, accessFlags := 1, code := some k16c2 }
def k16c3 : Code := { maxStack := 4, maxLocals := 3, code := jdk_68_method_9_code, exceptionTable := #[], attributes := #[] }
def k16m3 : Method := { name := "ensureCapacityInternal", desc := "(I)V", sig := { parameters := [.int], returnType := none }, accessFlags := 2, code := some k16c3 }
def k16c4 : Code := { maxStack := 5, maxLocals := 6, code := jdk_68_method_10_code, exceptionTable := #[], attributes := #[] }
def k16m4 : Method := { name := "newCapacity", desc := "(I)I", sig := { parameters := [.int], returnType := some .int }, accessFlags := 2, code := some k16c4 }
def k16c5 : Code := { maxStack := 3, maxLocals := 3, code := jdk_68_method_22_code, exceptionTable := #[], attributes := #[] }
def k16m5 : Method := { name := "append", desc := "(Ljava/lang/String;)Ljava/lang/AbstractStringBuilder;", sig := { parameters := [(.object "java/lang/String")], returnType := some (.object "java/lang/AbstractStringBuilder") }, accessFlags := 1, code := some k16c5 }
def k16c6 : Code := { maxStack := 5, maxLocals := 5, code := jdk_68_method_33_code, exceptionTable := #[], attributes := #[] }
def k16m6 : Method := { name := "append", desc := "(J)Ljava/lang/AbstractStringBuilder;", sig := { parameters := [.long], returnType := some (.object "java/lang/AbstractStringBuilder") }, accessFlags := 1, code := some k16c6 }
def k16c7 : Code := { maxStack := 1, maxLocals := 1, code := jdk_68_method_64_code, exceptionTable := #[], attributes := #[] }
def k16m7 : Method := { name := "getValue", desc := "()[B", sig := { parameters := [], returnType := some (.array .byte) }, accessFlags := 16, code := some k16c7 }
def k16c8 : Code := { maxStack := 1, maxLocals := 1, code := jdk_68_method_68_code, exceptionTable := #[], attributes := #[] }
def k16m8 : Method := { name := "isLatin1", desc := "()Z", sig := { parameters := [], returnType := some .boolean }, accessFlags := 16, code := some k16c8 }
def k16c9 : Code := { maxStack := 2, maxLocals := 2, code := jdk_68_method_71_code, exceptionTable := #[], attributes := #[] }
def k16m9 : Method := { name := "inflateIfNeededFor", desc := "(Ljava/lang/String;)V", sig := { parameters := [(.object "java/lang/String")], returnType := none }, accessFlags := 2, code := some k16c9 }
def k16c10 : Code := { maxStack := 4, maxLocals := 3, code := jdk_68_method_73_code, exceptionTable := #[], attributes := #[] }
def k16m10 : Method := { name := "putStringAt", desc := "(ILjava/lang/String;)V", sig := { parameters := [.int, (.object "java/lang/String")], returnType := none }, accessFlags := 2, code := some k16c10 }
/-- java/lang/AbstractStringBuilder -/
def k16 : Class := { plain "java/lang/AbstractStringBuilder" (some 0) with
  accessFlags := 1056
  interfaces := #[15, 5]
  cf := some (fileOf pool16 10 #[] #[{ accessFlags := 0, nameIndex := 7, descriptorIndex := 8, attributes := #[] }, { accessFlags := 0, nameIndex := 7, descriptorIndex := 103, attributes := #[] }, { accessFlags := 1, nameIndex := 34, descriptorIndex := 35, attributes := #[] }, { accessFlags := 2, nameIndex := 102, descriptorIndex := 103, attributes := #[] }, { accessFlags := 2, nameIndex := 106, descriptorIndex := 107, attributes := #[] }, { accessFlags := 1, nameIndex := 45, descriptorIndex := 46, attributes := #[] }, { accessFlags := 1, nameIndex := 45, descriptorIndex := 513, attributes := #[] }, { accessFlags := 16, nameIndex := 552, descriptorIndex := 403, attributes := #[] }, { accessFlags := 16, nameIndex := 85, descriptorIndex := 86, attributes := #[] }, { accessFlags := 2, nameIndex := 217, descriptorIndex := 69, attributes := #[] }, { accessFlags := 2, nameIndex := 210, descriptorIndex := 211, attributes := #[] }] 1056 4 #[444, 48] #[{ accessFlags := 0, nameIndex := 17, descriptorIndex := 14, attributes := #[] }, { accessFlags := 0, nameIndex := 24, descriptorIndex := 25, attributes := #[] }, { accessFlags := 0, nameIndex := 75, descriptorIndex := 21, attributes := #[] }, { accessFlags := 0, nameIndex := 81, descriptorIndex := 82, attributes := #[] }, { accessFlags := 26, nameIndex := 13, descriptorIndex := 14, attributes := #[] }])
  fields := #[{ name := "value", type := (.array .byte), accessFlags := 0, slot := 0, constantValue := 0 }, { name := "coder", type := .byte, accessFlags := 0, slot := 1, constantValue := 0 }, { name := "maybeLatin1", type := .boolean, accessFlags := 0, slot := 2, constantValue := 0 }, { name := "count", type := .int, accessFlags := 0, slot := 3, constantValue := 0 }, { name := "EMPTYVALUE", type := (.array .byte), accessFlags := 26, slot := 0, constantValue := 0 }]
  methods := #[k16m0, k16m1, k16m2, k16m3, k16m4, k16m5, k16m6, k16m7, k16m8, k16m9, k16m10]
  instanceTypes := #[(.array .byte), .byte, .boolean, .int]
  staticTypes := #[(.array .byte)]
  resolved := Array.replicate 609 none
  statics := none }

def pool17 : Array CpInfo := pool [(1, .methodref 2 3), (0, .class_ 4), (0, .nameAndType 5 6), (0, u "java/lang/AbstractStringBuilder"), (0, u "<init>"), (0, u "(I)V"), (11, .class_ 20), (1, u "java/lang/String"), (3, .class_ 26), (1, u "java/lang/StringBuilder"), (0, u "append"), (0, u "(Ljava/lang/String;)Ljava/lang/StringBuilder;"), (0, .methodref 2 30), (0, .nameAndType 27 31), (0, u "(Ljava/lang/String;)Ljava/lang/AbstractStringBuilder;"), (24, .methodref 2 57), (0, .nameAndType 27 58), (0, u "(J)Ljava/lang/AbstractStringBuilder;"), (78, .methodref 18 138), (0, .nameAndType 5 139), (0, u "(Ljava/lang/StringBuilder;)V"), (5, u "()V"), (10, u "()I"), (124, u "(J)Ljava/lang/StringBuilder;"), (61, .methodref 2 344), (0, .nameAndType 345 156), (0, u "length"), (3, .class_ 350), (0, u "java/lang/Appendable"), (0, .class_ 352), (0, u "java/io/Serializable"), (0, .class_ 354), (0, u "java/lang/Comparable"), (0, .class_ 356), (0, u "java/lang/CharSequence"), (0, u "serialVersionUID"), (0, u "J"), (40, u "toString"), (0, u "()Ljava/lang/String;")] 21

def k17c0 : Code := { maxStack := 2, maxLocals := 1, code := jdk_67_method_1_code, exceptionTable := #[], attributes := #[] }
def k17m0 : Method := { name := "<init>", desc := "()V", sig := { parameters := [], returnType := none }, accessFlags := 1, code := some k17c0 }
def k17c1 : Code := { maxStack := 2, maxLocals := 2, code := jdk_67_method_7_code, exceptionTable := #[], attributes := #[] }
def k17m1 : Method := { name := "append", desc := "(Ljava/lang/String;)Ljava/lang/StringBuilder;", sig := { parameters := [(.object "java/lang/String")], returnType := some (.object "java/lang/StringBuilder") }, accessFlags := 1, code := some k17c1 }
def k17c2 : Code := { maxStack := 3, maxLocals := 3, code := jdk_67_method_16_code, exceptionTable := #[], attributes := #[] }
def k17m2 : Method := { name := "append", desc := "(J)Ljava/lang/StringBuilder;", sig := { parameters := [.long], returnType := some (.object "java/lang/StringBuilder") }, accessFlags := 1, code := some k17c2 }
def k17c3 : Code := { maxStack := 3, maxLocals := 1, code := jdk_67_method_42_code, exceptionTable := #[], attributes := #[] }
def k17m3 : Method := { name := "toString", desc := "()Ljava/lang/String;", sig := { parameters := [], returnType := some (.object "java/lang/String") }, accessFlags := 1, code := some k17c3 }
def k17c4 : Code := { maxStack := 1, maxLocals := 1, code := jdk_67_method_93_code, exceptionTable := #[], attributes := #[] }
def k17m4 : Method := { name := "length", desc := "()I", sig := { parameters := [], returnType := some .int }, accessFlags := 4161, code := some k17c4 }
/-- java/lang/StringBuilder -/
def k17 : Class := { plain "java/lang/StringBuilder" (some 16) with
  accessFlags := 49
  interfaces := #[15, 4, 2, 5]
  cf := some (fileOf pool17 24 #[] #[{ accessFlags := 1, nameIndex := 5, descriptorIndex := 145, attributes := #[] }, { accessFlags := 1, nameIndex := 27, descriptorIndex := 28, attributes := #[] }, { accessFlags := 1, nameIndex := 27, descriptorIndex := 281, attributes := #[] }, { accessFlags := 1, nameIndex := 399, descriptorIndex := 400, attributes := #[] }, { accessFlags := 4161, nameIndex := 345, descriptorIndex := 156, attributes := #[] }] 49 2 #[349, 351, 353, 355] #[{ accessFlags := 24, nameIndex := 357, descriptorIndex := 358, attributes := #[] }])
  fields := #[{ name := "serialVersionUID", type := .long, accessFlags := 24, slot := 0, constantValue := 0 }]
  methods := #[k17m0, k17m1, k17m2, k17m3, k17m4]
  instanceTypes := #[(.array .byte), .byte, .boolean, .int]
  staticTypes := #[.long]
  resolved := Array.replicate 422 none
  statics := none }

def pool18 : Array CpInfo := pool [(9, u "<init>"), (6, .class_ 18), (1, u "java/lang/Object"), (0, u "()V"), (1, .class_ 23), (1, u "jdk/internal/util/ArraysSupport"), (0, u "LOG2_ARRAY_LONG_INDEX_SCALE"), (0, u "I"), (2, u "U"), (0, u "Ljdk/internal/misc/Unsafe;"), (8, u "BIG_ENDIAN"), (0, u "Z"), (8, u "LOG2_BYTE_BIT_SIZE"), (4, u "LOG2_ARRAY_INT_INDEX_SCALE"), (54, u "JLA"), (0, u "Ljdk/internal/access/JavaLangAccess;"), (11, u "LOG2_ARRAY_BOOLEAN_INDEX_SCALE"), (9, u "LOG2_ARRAY_BYTE_INDEX_SCALE"), (5, u "LOG2_ARRAY_CHAR_INDEX_SCALE"), (5, u "LOG2_ARRAY_SHORT_INDEX_SCALE"), (18, u "LOG2_ARRAY_FLOAT_INDEX_SCALE"), (24, u "LOG2_ARRAY_DOUBLE_INDEX_SCALE"), (6, .methodref 195 196), (0, .class_ 197), (0, .nameAndType 198 199), (0, u "java/lang/Math"), (0, u "max"), (0, u "(II)I"), (0, .integer 2147483639), (76, u "T_BOOLEAN"), (2, u "T_CHAR"), (1, u "T_FLOAT"), (1, u "T_DOUBLE"), (1, u "T_BYTE"), (1, u "T_SHORT"), (1, u "T_INT"), (1, u "T_LONG"), (1, u "SOFT_MAX_ARRAY_LENGTH"), (56, u "newLength"), (0, u "(III)I")] 25

def k18m0 : Method := { name := "<init>", desc := "()V", sig := { parameters := [], returnType := none }, accessFlags := 2, code := none }
def k18c1 : Code := { maxStack := 3, maxLocals := 4, code := jdk_48_method_27_code, exceptionTable := #[], attributes := #[] }
def k18m1 : Method := { name := "newLength", desc := "(III)I", sig := { parameters := [.int, .int, .int], returnType := some .int }, accessFlags := 9, code := some k18c1 }
/-- jdk/internal/util/ArraysSupport -/
def k18 : Class := { plain "jdk/internal/util/ArraysSupport" (some 0) with
  accessFlags := 33
  interfaces := #[]
  cf := some (fileOf pool18 21 #[] #[{ accessFlags := 2, nameIndex := 9, descriptorIndex := 19, attributes := #[] }, { accessFlags := 9, nameIndex := 351, descriptorIndex := 352, attributes := #[] }] 33 16 #[] #[{ accessFlags := 24, nameIndex := 28, descriptorIndex := 29, attributes := #[] }, { accessFlags := 26, nameIndex := 38, descriptorIndex := 39, attributes := #[] }, { accessFlags := 25, nameIndex := 121, descriptorIndex := 25, attributes := #[] }, { accessFlags := 25, nameIndex := 131, descriptorIndex := 25, attributes := #[] }, { accessFlags := 25, nameIndex := 137, descriptorIndex := 25, attributes := #[] }, { accessFlags := 25, nameIndex := 143, descriptorIndex := 25, attributes := #[] }, { accessFlags := 25, nameIndex := 53, descriptorIndex := 25, attributes := #[] }, { accessFlags := 25, nameIndex := 24, descriptorIndex := 25, attributes := #[] }, { accessFlags := 25, nameIndex := 162, descriptorIndex := 25, attributes := #[] }, { accessFlags := 25, nameIndex := 187, descriptorIndex := 25, attributes := #[] }, { accessFlags := 26, nameIndex := 48, descriptorIndex := 25, attributes := #[] }, { accessFlags := 25, nameIndex := 277, descriptorIndex := 25, attributes := #[] }, { accessFlags := 25, nameIndex := 280, descriptorIndex := 25, attributes := #[] }, { accessFlags := 25, nameIndex := 282, descriptorIndex := 25, attributes := #[] }, { accessFlags := 25, nameIndex := 284, descriptorIndex := 25, attributes := #[] }, { accessFlags := 25, nameIndex := 286, descriptorIndex := 25, attributes := #[] }, { accessFlags := 25, nameIndex := 288, descriptorIndex := 25, attributes := #[] }, { accessFlags := 25, nameIndex := 290, descriptorIndex := 25, attributes := #[] }, { accessFlags := 25, nameIndex := 292, descriptorIndex := 25, attributes := #[] }, { accessFlags := 26, nameIndex := 108, descriptorIndex := 109, attributes := #[] }, { accessFlags := 25, nameIndex := 294, descriptorIndex := 25, attributes := #[] }])
  fields := #[{ name := "U", type := (.object "jdk/internal/misc/Unsafe"), accessFlags := 24, slot := 0, constantValue := 0 }, { name := "BIG_ENDIAN", type := .boolean, accessFlags := 26, slot := 1, constantValue := 0 }, { name := "LOG2_ARRAY_BOOLEAN_INDEX_SCALE", type := .int, accessFlags := 25, slot := 2, constantValue := 0 }, { name := "LOG2_ARRAY_BYTE_INDEX_SCALE", type := .int, accessFlags := 25, slot := 3, constantValue := 0 }, { name := "LOG2_ARRAY_CHAR_INDEX_SCALE", type := .int, accessFlags := 25, slot := 4, constantValue := 0 }, { name := "LOG2_ARRAY_SHORT_INDEX_SCALE", type := .int, accessFlags := 25, slot := 5, constantValue := 0 }, { name := "LOG2_ARRAY_INT_INDEX_SCALE", type := .int, accessFlags := 25, slot := 6, constantValue := 0 }, { name := "LOG2_ARRAY_LONG_INDEX_SCALE", type := .int, accessFlags := 25, slot := 7, constantValue := 0 }, { name := "LOG2_ARRAY_FLOAT_INDEX_SCALE", type := .int, accessFlags := 25, slot := 8, constantValue := 0 }, { name := "LOG2_ARRAY_DOUBLE_INDEX_SCALE", type := .int, accessFlags := 25, slot := 9, constantValue := 0 }, { name := "LOG2_BYTE_BIT_SIZE", type := .int, accessFlags := 26, slot := 10, constantValue := 0 }, { name := "T_BOOLEAN", type := .int, accessFlags := 25, slot := 11, constantValue := 0 }, { name := "T_CHAR", type := .int, accessFlags := 25, slot := 12, constantValue := 0 }, { name := "T_FLOAT", type := .int, accessFlags := 25, slot := 13, constantValue := 0 }, { name := "T_DOUBLE", type := .int, accessFlags := 25, slot := 14, constantValue := 0 }, { name := "T_BYTE", type := .int, accessFlags := 25, slot := 15, constantValue := 0 }, { name := "T_SHORT", type := .int, accessFlags := 25, slot := 16, constantValue := 0 }, { name := "T_INT", type := .int, accessFlags := 25, slot := 17, constantValue := 0 }, { name := "T_LONG", type := .int, accessFlags := 25, slot := 18, constantValue := 0 }, { name := "JLA", type := (.object "jdk/internal/access/JavaLangAccess"), accessFlags := 26, slot := 19, constantValue := 0 }, { name := "SOFT_MAX_ARRAY_LENGTH", type := .int, accessFlags := 25, slot := 20, constantValue := 0 }]
  methods := #[k18m0, k18m1]
  instanceTypes := #[]
  staticTypes := #[(.object "jdk/internal/misc/Unsafe"), .boolean, .int, .int, .int, .int, .int, .int, .int, .int, .int, .int, .int, .int, .int, .int, .int, .int, .int, (.object "jdk/internal/access/JavaLangAccess"), .int]
  resolved := Array.replicate 378 none
  statics := none }

def pool19 : Array CpInfo := pool [(1, .class_ 2), (0, u "java/lang/Math"), (1, .class_ 6), (1, u "java/lang/Object"), (0, u "<init>"), (0, u "()V"), (89, .class_ 100), (1, u "java/lang/Math$RandomNumberGeneratorHolder"), (71, u "negativeZeroFloatBits"), (0, u "J"), (2, u "negativeZeroDoubleBits"), (21, u "max"), (2, u "min"), (43, u "$assertionsDisabled"), (0, u "Z"), (88, u "(II)I"), (2, u "twoToTheDoubleScaleDown"), (0, u "D"), (4, u "twoToTheDoubleScaleUp"), (9, u "E"), (3, u "PI"), (2, u "TAU"), (2, u "DEGREES_TO_RADIANS"), (0, u "RADIANS_TO_DEGREES")] 94

def k19m0 : Method := { name := "<init>", desc := "()V", sig := { parameters := [], returnType := none }, accessFlags := 2, code := none }
def k19c1 : Code := { maxStack := 2, maxLocals := 2, code := jdk_29_method_65_code, exceptionTable := #[], attributes := #[] }
def k19m1 : Method := { name := "max", desc := "(II)I", sig := { parameters := [.int, .int], returnType := some .int }, accessFlags := 9, code := some k19c1 }
def k19c2 : Code := { maxStack := 2, maxLocals := 2, code := jdk_29_method_69_code, exceptionTable := #[], attributes := #[] }
def k19m2 : Method := { name := "min", desc := "(II)I", sig := { parameters := [.int, .int], returnType := some .int }, accessFlags := 9, code := some k19c2 }
/-- java/lang/Math -/
def k19 : Class := { plain "java/lang/Math" (some 0) with
  accessFlags := 49
  interfaces := #[]
  cf := some (fileOf pool19 1 #[.nestMembers #[98]] #[{ accessFlags := 2, nameIndex := 7, descriptorIndex := 8, attributes := #[] }, { accessFlags := 9, nameIndex := 198, descriptorIndex := 335, attributes := #[] }, { accessFlags := 9, nameIndex := 201, descriptorIndex := 335, attributes := #[] }] 49 4 #[] #[{ accessFlags := 25, nameIndex := 354, descriptorIndex := 339, attributes := #[] }, { accessFlags := 25, nameIndex := 358, descriptorIndex := 339, attributes := #[] }, { accessFlags := 25, nameIndex := 361, descriptorIndex := 339, attributes := #[] }, { accessFlags := 26, nameIndex := 364, descriptorIndex := 339, attributes := #[] }, { accessFlags := 26, nameIndex := 365, descriptorIndex := 339, attributes := #[] }, { accessFlags := 26, nameIndex := 172, descriptorIndex := 173, attributes := #[] }, { accessFlags := 26, nameIndex := 176, descriptorIndex := 173, attributes := #[] }, { accessFlags := 8, nameIndex := 344, descriptorIndex := 339, attributes := #[] }, { accessFlags := 8, nameIndex := 338, descriptorIndex := 339, attributes := #[] }, { accessFlags := 4120, nameIndex := 245, descriptorIndex := 246, attributes := #[] }])
  fields := #[{ name := "E", type := .double, accessFlags := 25, slot := 0, constantValue := 0 }, { name := "PI", type := .double, accessFlags := 25, slot := 1, constantValue := 0 }, { name := "TAU", type := .double, accessFlags := 25, slot := 2, constantValue := 0 }, { name := "DEGREES_TO_RADIANS", type := .double, accessFlags := 26, slot := 3, constantValue := 0 }, { name := "RADIANS_TO_DEGREES", type := .double, accessFlags := 26, slot := 4, constantValue := 0 }, { name := "negativeZeroFloatBits", type := .long, accessFlags := 26, slot := 5, constantValue := 0 }, { name := "negativeZeroDoubleBits", type := .long, accessFlags := 26, slot := 6, constantValue := 0 }, { name := "twoToTheDoubleScaleUp", type := .double, accessFlags := 8, slot := 7, constantValue := 0 }, { name := "twoToTheDoubleScaleDown", type := .double, accessFlags := 8, slot := 8, constantValue := 0 }, { name := "$assertionsDisabled", type := .boolean, accessFlags := 4120, slot := 9, constantValue := 0 }]
  methods := #[k19m0, k19m1, k19m2]
  instanceTypes := #[]
  staticTypes := #[.double, .double, .double, .double, .double, .long, .long, .double, .double, .boolean]
  resolved := Array.replicate 460 none
  statics := none }

def pool20 : Array CpInfo := pool [(2, .class_ 4), (1, u "java/lang/Object"), (0, u "<init>"), (0, u "()V"), (7, .class_ 16), (1, u "java/util/Arrays"), (57, .class_ 76), (1, u "java/util/Arrays$NaturalOrder"), (36, .class_ 115), (1, u "java/util/Arrays$LegacyMergeSort"), (1, u "Z"), (21, u "copyOfRange"), (10, .methodref 151 152), (0, .class_ 153), (0, .nameAndType 154 155), (0, u "java/lang/System"), (0, u "arraycopy"), (0, u "(Ljava/lang/Object;ILjava/lang/Object;II)V"), (146, u "copyOf"), (1, .methodref 305 306), (0, .class_ 307), (0, .nameAndType 308 309), (0, u "java/lang/Math"), (0, u "min"), (0, u "(II)I"), (29, .methodref 14 340), (0, .nameAndType 341 342), (0, u "copyOfRangeByte"), (0, u "([BII)[B"), (0, .methodref 14 344), (0, .nameAndType 345 346), (0, u "checkLength"), (0, u "(II)V"), (28, .class_ 376), (0, u "java/util/Arrays$ArrayList"), (68, u "$assertionsDisabled"), (269, u "MIN_ARRAY_SORT_GRAN"), (0, u "I"), (2, u "INSERTIONSORT_THRESHOLD"), (149, u "([BI)[B"), (105, .class_ 976), (0, u "java/util/Arrays$ArrayItr")] 52

def k20m0 : Method := { name := "<init>", desc := "()V", sig := { parameters := [], returnType := none }, accessFlags := 2, code := none }
def k20c1 : Code := { maxStack := 6, maxLocals := 3, code := jdk_65_method_121_code, exceptionTable := #[], attributes := #[] }
def k20m1 : Method := { name := "copyOf", desc := "([BI)[B", sig := { parameters := [(.array .byte), .int], returnType := some (.array .byte) }, accessFlags := 9, code := some k20c1 }
def k20c2 : Code := { maxStack := 4, maxLocals := 2, code := jdk_65_method_131_code, exceptionTable := #[], attributes := #[] }
def k20m2 : Method := { name := "checkLength", desc := "(II)V", sig := { parameters := [.int, .int], returnType := none }, accessFlags := 10, code := some k20c2 }
def k20c3 : Code := { maxStack := 3, maxLocals := 3, code := jdk_65_method_132_code, exceptionTable := #[], attributes := #[] }
def k20m3 : Method := { name := "copyOfRange", desc := "([BII)[B", sig := { parameters := [(.array .byte), .int, .int], returnType := some (.array .byte) }, accessFlags := 9, code := some k20c3 }
def k20c4 : Code := { maxStack := 6, maxLocals := 5, code := jdk_65_method_133_code, exceptionTable := #[], attributes := #[] }
def k20m4 : Method := { name := "copyOfRangeByte", desc := "([BII)[B", sig := { parameters := [(.array .byte), .int, .int], returnType := some (.array .byte) }, accessFlags := 10, code := some k20c4 }
/-- java/util/Arrays -/
def k20 : Class := { plain "java/util/Arrays" (some 0) with
  accessFlags := 49
  interfaces := #[]
  cf := some (fileOf pool20 14 #[.nestMembers #[975, 375, 113, 74]] #[{ accessFlags := 2, nameIndex := 5, descriptorIndex := 6, attributes := #[] }, { accessFlags := 9, nameIndex := 302, descriptorIndex := 869, attributes := #[] }, { accessFlags := 10, nameIndex := 345, descriptorIndex := 346, attributes := #[] }, { accessFlags := 9, nameIndex := 139, descriptorIndex := 342, attributes := #[] }, { accessFlags := 10, nameIndex := 341, descriptorIndex := 342, attributes := #[] }] 49 2 #[] #[{ accessFlags := 26, nameIndex := 715, descriptorIndex := 716, attributes := #[] }, { accessFlags := 26, nameIndex := 719, descriptorIndex := 716, attributes := #[] }, { accessFlags := 4120, nameIndex := 445, descriptorIndex := 117, attributes := #[] }])
  fields := #[{ name := "MIN_ARRAY_SORT_GRAN", type := .int, accessFlags := 26, slot := 0, constantValue := 0 }, { name := "INSERTIONSORT_THRESHOLD", type := .int, accessFlags := 26, slot := 1, constantValue := 0 }, { name := "$assertionsDisabled", type := .boolean, accessFlags := 4120, slot := 2, constantValue := 0 }]
  methods := #[k20m0, k20m1, k20m2, k20m3, k20m4]
  instanceTypes := #[]
  staticTypes := #[.int, .int, .boolean]
  resolved := Array.replicate 1029 none
  statics := none }

def pool21 : Array CpInfo := pool [(2, .class_ 4), (1, u "java/lang/Object"), (0, u "<init>"), (0, u "()V"), (1, .class_ 10), (1, u "java/lang/System"), (0, u "allowSecurityManager"), (0, u "I"), (16, u "cons"), (0, u "Ljava/io/Console;"), (77, .class_ 110), (1, u "java/lang/System$CallersHolder"), (43, u "initialErrStream"), (0, u "Ljava/io/PrintStream;"), (19, u "security"), (0, u "Ljava/lang/SecurityManager;"), (31, .class_ 209), (0, u "java/lang/System$1"), (7, u "props"), (0, u "Ljava/util/Properties;"), (2, u "lineSeparator"), (0, u "Ljava/lang/String;"), (96, .class_ 321), (1, u "java/lang/System$LoggerFinder"), (5, .class_ 328), (0, u "java/lang/System$Logger"), (67, u "err"), (2, u "out"), (91, u "notSupportedJnuEncoding"), (15, u "in"), (17, u "initialIn"), (0, u "Ljava/io/InputStream;"), (35, u "bootLayer"), (0, u "Ljava/lang/ModuleLayer;"), (99, .class_ 664), (0, u "java/lang/System$2"), (9, u "NEVER"), (2, u "MAYBE"), (49, u "arraycopy"), (0, u "(Ljava/lang/Object;ILjava/lang/Object;II)V"), (72, .class_ 802), (0, u "java/lang/System$Logger$Level")] 31

def k21m0 : Method := { name := "<init>", desc := "()V", sig := { parameters := [], returnType := none }, accessFlags := 2, code := none }
def k21m1 : Method := { name := "arraycopy", desc := "(Ljava/lang/Object;ILjava/lang/Object;II)V", sig := { parameters := [(.object "java/lang/Object"), .int, (.object "java/lang/Object"), .int, .int], returnType := none }, accessFlags := 265, code := none }
/-- java/lang/System -/
def k21 : Class := { plain "java/lang/System" (some 0) with
  accessFlags := 49
  interfaces := #[]
  cf := some (fileOf pool21 8 #[.nestMembers #[319, 327, 801, 108, 663, 208]] #[{ accessFlags := 2, nameIndex := 5, descriptorIndex := 6, attributes := #[] }, { accessFlags := 265, nameIndex := 727, descriptorIndex := 728, attributes := #[] }] 49 2 #[] #[{ accessFlags := 25, nameIndex := 507, descriptorIndex := 526, attributes := #[] }, { accessFlags := 25, nameIndex := 399, descriptorIndex := 155, attributes := #[] }, { accessFlags := 25, nameIndex := 396, descriptorIndex := 155, attributes := #[] }, { accessFlags := 10, nameIndex := 525, descriptorIndex := 526, attributes := #[] }, { accessFlags := 26, nameIndex := 674, descriptorIndex := 12, attributes := #[] }, { accessFlags := 26, nameIndex := 677, descriptorIndex := 12, attributes := #[] }, { accessFlags := 10, nameIndex := 11, descriptorIndex := 12, attributes := #[] }, { accessFlags := 74, nameIndex := 175, descriptorIndex := 176, attributes := #[] }, { accessFlags := 10, nameIndex := 491, descriptorIndex := 222, attributes := #[] }, { accessFlags := 74, nameIndex := 29, descriptorIndex := 30, attributes := #[] }, { accessFlags := 74, nameIndex := 154, descriptorIndex := 155, attributes := #[] }, { accessFlags := 10, nameIndex := 217, descriptorIndex := 218, attributes := #[] }, { accessFlags := 10, nameIndex := 221, descriptorIndex := 222, attributes := #[] }, { accessFlags := 8, nameIndex := 562, descriptorIndex := 563, attributes := #[] }])
  fields := #[{ name := "in", type := (.object "java/io/InputStream"), accessFlags := 25, slot := 0, constantValue := 0 }, { name := "out", type := (.object "java/io/PrintStream"), accessFlags := 25, slot := 1, constantValue := 0 }, { name := "err", type := (.object "java/io/PrintStream"), accessFlags := 25, slot := 2, constantValue := 0 }, { name := "initialIn", type := (.object "java/io/InputStream"), accessFlags := 10, slot := 3, constantValue := 0 }, { name := "NEVER", type := .int, accessFlags := 26, slot := 4, constantValue := 0 }, { name := "MAYBE", type := .int, accessFlags := 26, slot := 5, constantValue := 0 }, { name := "allowSecurityManager", type := .int, accessFlags := 10, slot := 6, constantValue := 0 }, { name := "security", type := (.object "java/lang/SecurityManager"), accessFlags := 74, slot := 7, constantValue := 0 }, { name := "notSupportedJnuEncoding", type := (.object "java/lang/String"), accessFlags := 10, slot := 8, constantValue := 0 }, { name := "cons", type := (.object "java/io/Console"), accessFlags := 74, slot := 9, constantValue := 0 }, { name := "initialErrStream", type := (.object "java/io/PrintStream"), accessFlags := 74, slot := 10, constantValue := 0 }, { name := "props", type := (.object "java/util/Properties"), accessFlags := 10, slot := 11, constantValue := 0 }, { name := "lineSeparator", type := (.object "java/lang/String"), accessFlags := 10, slot := 12, constantValue := 0 }, { name := "bootLayer", type := (.object "java/lang/ModuleLayer"), accessFlags := 8, slot := 13, constantValue := 0 }]
  methods := #[k21m0, k21m1]
  instanceTypes := #[]
  staticTypes := #[(.object "java/io/InputStream"), (.object "java/io/PrintStream"), (.object "java/io/PrintStream"), (.object "java/io/InputStream"), .int, .int, .int, (.object "java/lang/SecurityManager"), (.object "java/lang/String"), (.object "java/io/Console"), (.object "java/io/PrintStream"), (.object "java/util/Properties"), (.object "java/lang/String"), (.object "java/lang/ModuleLayer")]
  resolved := Array.replicate 834 none
  statics := none }

def pool22 : Array CpInfo := pool [(1, u "java/lang/Cloneable"), (0, .class_ 1), (0, u "java/lang/Object"), (0, .class_ 3)] 3

/-- java/lang/Cloneable -/
def k22 : Class := { plain "java/lang/Cloneable" (some 0) with
  accessFlags := 1537
  interfaces := #[]
  cf := some (fileOf pool22 2 #[] #[] 1537 4 #[] #[])
  fields := #[]
  methods := #[]
  instanceTypes := #[]
  staticTypes := #[]
  resolved := Array.replicate 8 none
  statics := none }

/-- the primitive byte -/
def k23 : Class := { plain "byte" none with kind := .primitive 'B', accessFlags := 0x411 }
/-- [B -/
def k24 : Class := { plain "[B" (some 0) with kind := .array 23 .byte, interfaces := #[22, 4], accessFlags := 1041 }

/-- the primitive int -/
def k25 : Class := { plain "int" none with kind := .primitive 'I', accessFlags := 0x411 }
/-- [I -/
def k26 : Class := { plain "[I" (some 0) with kind := .array 25 .int, interfaces := #[22, 4], accessFlags := 1041 }

def heap : Heap := #[{ cls := 3, slots := #[.int 0, .long 0, .int 0, .long 1844674407370955161, .int 5], vm := .statics 3 },
  { cls := 8, slots := #[.long 0, .int 1, .null, .int 0, .null, .int 0, .int 0], vm := .statics 8 },
  { cls := 11, slots := #[.int 0, .int 0, .null, .null, .ref 5, .ref 4, .int 0, .int 0, .long 0], vm := .statics 11 },
  { cls := 14, slots := #[.null, .null, .null], vm := .statics 14 },
  { cls := 24, slots := #[.int 48, .int 49, .int 50, .int 51, .int 52, .int 53, .int 54, .int 55, .int 56, .int 57, .int 48, .int 49, .int 50, .int 51, .int 52, .int 53, .int 54, .int 55, .int 56, .int 57, .int 48, .int 49, .int 50, .int 51, .int 52, .int 53, .int 54, .int 55, .int 56, .int 57, .int 48, .int 49, .int 50, .int 51, .int 52, .int 53, .int 54, .int 55, .int 56, .int 57, .int 48, .int 49, .int 50, .int 51, .int 52, .int 53, .int 54, .int 55, .int 56, .int 57, .int 48, .int 49, .int 50, .int 51, .int 52, .int 53, .int 54, .int 55, .int 56, .int 57, .int 48, .int 49, .int 50, .int 51, .int 52, .int 53, .int 54, .int 55, .int 56, .int 57, .int 48, .int 49, .int 50, .int 51, .int 52, .int 53, .int 54, .int 55, .int 56, .int 57, .int 48, .int 49, .int 50, .int 51, .int 52, .int 53, .int 54, .int 55, .int 56, .int 57, .int 48, .int 49, .int 50, .int 51, .int 52, .int 53, .int 54, .int 55, .int 56, .int 57], vm := .none },
  { cls := 24, slots := #[.int 48, .int 48, .int 48, .int 48, .int 48, .int 48, .int 48, .int 48, .int 48, .int 48, .int 49, .int 49, .int 49, .int 49, .int 49, .int 49, .int 49, .int 49, .int 49, .int 49, .int 50, .int 50, .int 50, .int 50, .int 50, .int 50, .int 50, .int 50, .int 50, .int 50, .int 51, .int 51, .int 51, .int 51, .int 51, .int 51, .int 51, .int 51, .int 51, .int 51, .int 52, .int 52, .int 52, .int 52, .int 52, .int 52, .int 52, .int 52, .int 52, .int 52, .int 53, .int 53, .int 53, .int 53, .int 53, .int 53, .int 53, .int 53, .int 53, .int 53, .int 54, .int 54, .int 54, .int 54, .int 54, .int 54, .int 54, .int 54, .int 54, .int 54, .int 55, .int 55, .int 55, .int 55, .int 55, .int 55, .int 55, .int 55, .int 55, .int 55, .int 56, .int 56, .int 56, .int 56, .int 56, .int 56, .int 56, .int 56, .int 56, .int 56, .int 57, .int 57, .int 57, .int 57, .int 57, .int 57, .int 57, .int 57, .int 57, .int 57], vm := .none }]
def classes : Array Class := #[k0, k1, k2, k3, k4, k5, k6, k7, k8, k9, k10, k11, k12, k13, k14, k15, k16, k17, k18, k19, k20, k21, k22, k23, k24, k25, k26]
def interned : List (Array UInt16 × Addr) := []
def slotsUsed : Nat := 224
def theMethod : MethodId := ⟨1, 1⟩
def args0 : Array Value := #[.long 5]
def aboutOver (below : List Frame) : State where
  vm := { classes := classes, interned := interned.toArray }
  heap := heap
  slotsUsed := slotsUsed
  threads := #[{ frames := .invoking theMethod args0 :: below }]
def below0 : List Frame := [.native { method := ⟨0, 0⟩, args := #[] }]
def about1 : State := aboutOver below0
def p0 : Program := .bare "" "" ""
def e0 : Env := launch0.env 0 0 0
theorem w_frames : about1.frames = Frame.invoking theMethod args0 :: below0 := rfl
set_option maxRecDepth 65536 in
theorem w_args : argsFit about1.vm theMethod args0 = true := by decide +kernel
set_option maxRecDepth 65536 in
theorem w_heap : heapFits about1 = true := by decide +kernel
set_option maxRecDepth 65536 in
theorem w_runnable : about1.curStatus? = some .runnable := by decide +kernel
set_option maxRecDepth 65536 in
theorem w_alone : about1.alone = true := by decide +kernel
set_option maxRecDepth 65536 in
theorem w_named : about1.methodNamed? x = some theMethod := by decide +kernel
set_option maxRecDepth 65536 in
theorem w_hears : about1.hears theMethod below0 = true := by decide +kernel
set_option maxRecDepth 65536 in
theorem w_ripe : about1.ripe theMethod args0 below0 = true := by decide +kernel
theorem w_running : about1.status = .running := rfl
set_option maxRecDepth 65536 in
theorem w_room : about1.hasRoom e0.platform room_1 = true :=
  launch0.hasRoom_least _ room_1 (by decide +kernel) (by decide +kernel) (by decide +kernel) (by decide +kernel) (by decide +kernel) (by decide +kernel)
theorem allAtoms_all (ts : List Jvm.Cond) (a : Array Jvm.Value) (st : Jvm.State) : (allAtoms ts).before a st = ts.all (fun c => c.before a st) := by
  induction ts with
  | nil => rfl
  | cons c t ih =>
    show (Jvm.Cond.and c (allAtoms t)).before a st = _
    rw [Jvm.Cond.before_and, ih, List.all_cons]
def words1 : List Jvm.Cond := Jvm.Cond.code x code maxLocals ret :: tables_1
/-- a 'code' word, met by the world's own term for the bytes: nothing is compared byte by byte -/
theorem code_word {y : MethodName} {bytes : ByteArray} {mx : Nat} {rt : Option FieldType} {a : Array Value} {s : State} {m : MethodId} {meth : Method} {c : Code} (h1 : s.methodNamed? y = some m) (h2 : s.vm.method? m = some meth) (h3 : meth.code = some c) (h4 : c.code = bytes)
    (h5 : (c.maxLocals == mx && c.exceptionTable.isEmpty && decide (c.maxStack ≤ mostOperands) && decide (meth.sig.returnType = rt) && !meth.locks && decide (parseMethodDescriptor y.desc = some meth.sig)) = true) : (Jvm.Cond.code y bytes mx rt).before a s = true := by
  simp only [Bool.and_eq_true, beq_iff_eq, Bool.not_eq_true', decide_eq_true_eq] at h5
  obtain ⟨⟨⟨⟨⟨g1, g2⟩, g3⟩, g4⟩, g5⟩, g6⟩ := h5
  simp [Cond.before, Cond.holds, Cond.value, h1, h2, h3, h4, g1, g2, g3, g4, g5, g6]
def isCode : Jvm.Cond → Bool
  | .code _ _ _ _ => true
  | _ => false
theorem all_split {L : List Jvm.Cond} {P : Jvm.Cond → Bool} (h1 : L.all (fun c => isCode c || P c) = true) (h2 : ∀ c ∈ L.filter isCode, P c = true) : L.all P = true := by
  refine List.all_eq_true.mpr fun c hc => ?_
  have h := List.all_eq_true.mp h1 c hc
  rcases Bool.eq_false_or_eq_true (isCode c) with hi | hi
  · exact h2 c (List.mem_filter.mpr ⟨hc, hi⟩)
  · simpa [hi] using h
set_option maxRecDepth 65536 in
theorem w_c0 : (Jvm.Cond.code x code maxLocals ret).before args0 about1 = true := code_word (m := ⟨1, 1⟩) (meth := k1m1) (c := k1c1) (by decide +kernel) rfl rfl rfl (by decide +kernel)
set_option maxRecDepth 65536 in
theorem w_c1 : (Jvm.Cond.code ({ cls := "com/example/fides/fides/HybridTimestamp", name := "of", desc := "(JI)Lcom/example/fides/fides/HybridTimestamp;" } : Jvm.MethodName) prog_8_method_2_code (3 : Nat) (Option.some (Jvm.ClassFile.FieldType.object "com/example/fides/fides/HybridTimestamp"))).before args0 about1 = true := code_word (m := ⟨3, 1⟩) (meth := k3m1) (c := k3c1) (by decide +kernel) rfl rfl rfl (by decide +kernel)
set_option maxRecDepth 65536 in
theorem w_c2 : (Jvm.Cond.code ({ cls := "com/example/fides/fides/HybridTimestamp", name := "requireInRange", desc := "(Ljava/lang/String;JJ)V" } : Jvm.MethodName) prog_8_method_5_code (5 : Nat) (Option.none : Option Jvm.ClassFile.FieldType)).before args0 about1 = true := code_word (m := ⟨3, 3⟩) (meth := k3m3) (c := k3c3) (by decide +kernel) rfl rfl rfl (by decide +kernel)
set_option maxRecDepth 65536 in
theorem w_c3 : (Jvm.Cond.code ({ cls := "com/example/fides/fides/HybridTimestamp", name := "<init>", desc := "(J)V" } : Jvm.MethodName) prog_8_method_1_code (3 : Nat) (Option.none : Option Jvm.ClassFile.FieldType)).before args0 about1 = true := code_word (m := ⟨3, 0⟩) (meth := k3m0) (c := k3c0) (by decide +kernel) rfl rfl rfl (by decide +kernel)
set_option maxRecDepth 65536 in
theorem w_c4 : (Jvm.Cond.code ({ cls := "java/lang/Object", name := "<init>", desc := "()V" } : Jvm.MethodName) object_method_1_code (1 : Nat) (Option.none : Option Jvm.ClassFile.FieldType)).before args0 about1 = true := code_word (m := ⟨0, 0⟩) (meth := k0m0) (c := k0c0) (by decide +kernel) rfl rfl rfl (by decide +kernel)
set_option maxRecDepth 65536 in
theorem w_c5 : (Jvm.Cond.code ({ cls := "com/example/fides/fides/HybridTimestamp", name := "toString", desc := "()Ljava/lang/String;" } : Jvm.MethodName) prog_8_method_14_code (1 : Nat) (Option.some (Jvm.ClassFile.FieldType.object "java/lang/String"))).before args0 about1 = true := code_word (m := ⟨3, 6⟩) (meth := k3m6) (c := k3c6) (by decide +kernel) rfl rfl rfl (by decide +kernel)
set_option maxRecDepth 65536 in
theorem w_c6 : (Jvm.Cond.code ({ cls := "java/lang/Long", name := "toUnsignedString", desc := "(J)Ljava/lang/String;" } : Jvm.MethodName) jdk_35_method_13_code (2 : Nat) (Option.some (Jvm.ClassFile.FieldType.object "java/lang/String"))).before args0 about1 = true := code_word (m := ⟨10, 3⟩) (meth := k10m3) (c := k10c3) (by decide +kernel) rfl rfl rfl (by decide +kernel)
set_option maxRecDepth 65536 in
theorem w_c7 : (Jvm.Cond.code ({ cls := "java/lang/Long", name := "toUnsignedString", desc := "(JI)Ljava/lang/String;" } : Jvm.MethodName) jdk_35_method_3_code (7 : Nat) (Option.some (Jvm.ClassFile.FieldType.object "java/lang/String"))).before args0 about1 = true := code_word (m := ⟨10, 1⟩) (meth := k10m1) (c := k10c1) (by decide +kernel) rfl rfl rfl (by decide +kernel)
set_option maxRecDepth 65536 in
theorem w_c8 : (Jvm.Cond.code ({ cls := "java/lang/Long", name := "toString", desc := "(JI)Ljava/lang/String;" } : Jvm.MethodName) jdk_35_method_1_code (6 : Nat) (Option.some (Jvm.ClassFile.FieldType.object "java/lang/String"))).before args0 about1 = true := code_word (m := ⟨10, 0⟩) (meth := k10m0) (c := k10c0) (by decide +kernel) rfl rfl rfl (by decide +kernel)
set_option maxRecDepth 65536 in
theorem w_c9 : (Jvm.Cond.code ({ cls := "java/lang/Long", name := "toString", desc := "(J)Ljava/lang/String;" } : Jvm.MethodName) jdk_35_method_12_code (4 : Nat) (Option.some (Jvm.ClassFile.FieldType.object "java/lang/String"))).before args0 about1 = true := code_word (m := ⟨10, 2⟩) (meth := k10m2) (c := k10c2) (by decide +kernel) rfl rfl rfl (by decide +kernel)
set_option maxRecDepth 65536 in
theorem w_c10 : (Jvm.Cond.code ({ cls := "java/lang/Long", name := "stringSize", desc := "(J)I" } : Jvm.MethodName) jdk_35_method_15_code (6 : Nat) (Option.some Jvm.ClassFile.FieldType.int)).before args0 about1 = true := code_word (m := ⟨10, 5⟩) (meth := k10m5) (c := k10c5) (by decide +kernel) rfl rfl rfl (by decide +kernel)
set_option maxRecDepth 65536 in
theorem w_c11 : (Jvm.Cond.code ({ cls := "java/lang/Long", name := "getChars", desc := "(JI[B)I" } : Jvm.MethodName) jdk_35_method_14_code (11 : Nat) (Option.some Jvm.ClassFile.FieldType.int)).before args0 about1 = true := code_word (m := ⟨10, 4⟩) (meth := k10m4) (c := k10c4) (by decide +kernel) rfl rfl rfl (by decide +kernel)
set_option maxRecDepth 65536 in
theorem w_c12 : (Jvm.Cond.code ({ cls := "java/lang/String", name := "<init>", desc := "([BB)V" } : Jvm.MethodName) jdk_42_method_151_code (3 : Nat) (Option.none : Option Jvm.ClassFile.FieldType)).before args0 about1 = true := code_word (m := ⟨8, 7⟩) (meth := k8m7) (c := k8c7) (by decide +kernel) rfl rfl rfl (by decide +kernel)
set_option maxRecDepth 65536 in
theorem w_c13 : (Jvm.Cond.code ({ cls := "com/example/fides/fides/HybridTimestamp", name := "parse", desc := "(Ljava/lang/String;)Lcom/example/fides/fides/HybridTimestamp;" } : Jvm.MethodName) prog_8_method_3_code (6 : Nat) (Option.some (Jvm.ClassFile.FieldType.object "com/example/fides/fides/HybridTimestamp"))).before args0 about1 = true := code_word (m := ⟨3, 2⟩) (meth := k3m2) (c := k3c2) (by decide +kernel) rfl rfl rfl (by decide +kernel)
set_option maxRecDepth 65536 in
theorem w_c14 : (Jvm.Cond.code ({ cls := "java/util/Objects", name := "requireNonNull", desc := "(Ljava/lang/Object;Ljava/lang/String;)Ljava/lang/Object;" } : Jvm.MethodName) jdk_31_method_11_code (2 : Nat) (Option.some (Jvm.ClassFile.FieldType.object "java/lang/Object"))).before args0 about1 = true := code_word (m := ⟨12, 1⟩) (meth := k12m1) (c := k12c1) (by decide +kernel) rfl rfl rfl (by decide +kernel)
set_option maxRecDepth 65536 in
theorem w_c15 : (Jvm.Cond.code ({ cls := "java/lang/String", name := "isEmpty", desc := "()Z" } : Jvm.MethodName) jdk_42_method_55_code (1 : Nat) (Option.some Jvm.ClassFile.FieldType.boolean)).before args0 about1 = true := code_word (m := ⟨8, 3⟩) (meth := k8m3) (c := k8c3) (by decide +kernel) rfl rfl rfl (by decide +kernel)
set_option maxRecDepth 65536 in
theorem w_c16 : (Jvm.Cond.code ({ cls := "java/lang/String", name := "length", desc := "()I" } : Jvm.MethodName) jdk_42_method_54_code (1 : Nat) (Option.some Jvm.ClassFile.FieldType.int)).before args0 about1 = true := code_word (m := ⟨8, 2⟩) (meth := k8m2) (c := k8c2) (by decide +kernel) rfl rfl rfl (by decide +kernel)
set_option maxRecDepth 65536 in
theorem w_c17 : (Jvm.Cond.code ({ cls := "java/lang/String", name := "coder", desc := "()B" } : Jvm.MethodName) jdk_42_method_152_code (1 : Nat) (Option.some Jvm.ClassFile.FieldType.byte)).before args0 about1 = true := code_word (m := ⟨8, 8⟩) (meth := k8m8) (c := k8c8) (by decide +kernel) rfl rfl rfl (by decide +kernel)
set_option maxRecDepth 65536 in
theorem w_c18 : (Jvm.Cond.code ({ cls := "java/lang/String", name := "charAt", desc := "(I)C" } : Jvm.MethodName) jdk_42_method_56_code (2 : Nat) (Option.some Jvm.ClassFile.FieldType.char)).before args0 about1 = true := code_word (m := ⟨8, 4⟩) (meth := k8m4) (c := k8c4) (by decide +kernel) rfl rfl rfl (by decide +kernel)
set_option maxRecDepth 65536 in
theorem w_c19 : (Jvm.Cond.code ({ cls := "java/lang/String", name := "isLatin1", desc := "()Z" } : Jvm.MethodName) jdk_42_method_154_code (1 : Nat) (Option.some Jvm.ClassFile.FieldType.boolean)).before args0 about1 = true := code_word (m := ⟨8, 9⟩) (meth := k8m9) (c := k8c9) (by decide +kernel) rfl rfl rfl (by decide +kernel)
set_option maxRecDepth 65536 in
theorem w_c20 : (Jvm.Cond.code ({ cls := "java/lang/StringLatin1", name := "charAt", desc := "([BI)C" } : Jvm.MethodName) jdk_43_method_2_code (2 : Nat) (Option.some Jvm.ClassFile.FieldType.char)).before args0 about1 = true := code_word (m := ⟨13, 1⟩) (meth := k13m1) (c := k13c1) (by decide +kernel) rfl rfl rfl (by decide +kernel)
set_option maxRecDepth 65536 in
theorem w_c21 : (Jvm.Cond.code ({ cls := "java/lang/String", name := "checkIndex", desc := "(II)V" } : Jvm.MethodName) jdk_42_method_155_code (2 : Nat) (Option.none : Option Jvm.ClassFile.FieldType)).before args0 about1 = true := code_word (m := ⟨8, 10⟩) (meth := k8m10) (c := k8c10) (by decide +kernel) rfl rfl rfl (by decide +kernel)
set_option maxRecDepth 65536 in
theorem w_c22 : (Jvm.Cond.code ({ cls := "jdk/internal/util/Preconditions", name := "checkIndex", desc := "(IILjava/util/function/BiFunction;)I" } : Jvm.MethodName) jdk_41_method_11_code (3 : Nat) (Option.some Jvm.ClassFile.FieldType.int)).before args0 about1 = true := code_word (m := ⟨14, 1⟩) (meth := k14m1) (c := k14c1) (by decide +kernel) rfl rfl rfl (by decide +kernel)
set_option maxRecDepth 65536 in
theorem w_c23 : (Jvm.Cond.code ({ cls := "java/lang/Long", name := "compareUnsigned", desc := "(JJ)I" } : Jvm.MethodName) jdk_35_method_43_code (4 : Nat) (Option.some Jvm.ClassFile.FieldType.int)).before args0 about1 = true := code_word (m := ⟨10, 7⟩) (meth := k10m7) (c := k10c7) (by decide +kernel) rfl rfl rfl (by decide +kernel)
set_option maxRecDepth 65536 in
theorem w_c24 : (Jvm.Cond.code ({ cls := "java/lang/Long", name := "compare", desc := "(JJ)I" } : Jvm.MethodName) jdk_35_method_42_code (4 : Nat) (Option.some Jvm.ClassFile.FieldType.int)).before args0 about1 = true := code_word (m := ⟨10, 6⟩) (meth := k10m6) (c := k10c6) (by decide +kernel) rfl rfl rfl (by decide +kernel)
set_option maxRecDepth 65536 in
theorem w_c25 : (Jvm.Cond.code ({ cls := "com/example/fides/fides/HybridTimestamp", name := "millis", desc := "()J" } : Jvm.MethodName) prog_8_method_6_code (1 : Nat) (Option.some Jvm.ClassFile.FieldType.long)).before args0 about1 = true := code_word (m := ⟨3, 4⟩) (meth := k3m4) (c := k3c4) (by decide +kernel) rfl rfl rfl (by decide +kernel)
set_option maxRecDepth 65536 in
theorem w_c26 : (Jvm.Cond.code ({ cls := "com/example/fides/fides/HybridTimestamp", name := "counter", desc := "()I" } : Jvm.MethodName) prog_8_method_7_code (1 : Nat) (Option.some Jvm.ClassFile.FieldType.int)).before args0 about1 = true := code_word (m := ⟨3, 5⟩) (meth := k3m5) (c := k3c5) (by decide +kernel) rfl rfl rfl (by decide +kernel)
set_option maxRecDepth 65536 in
theorem w_c27 : (Jvm.Cond.code ({ cls := "java/lang/StringBuilder", name := "<init>", desc := "()V" } : Jvm.MethodName) jdk_67_method_1_code (1 : Nat) (Option.none : Option Jvm.ClassFile.FieldType)).before args0 about1 = true := code_word (m := ⟨17, 0⟩) (meth := k17m0) (c := k17c0) (by decide +kernel) rfl rfl rfl (by decide +kernel)
set_option maxRecDepth 65536 in
theorem w_c28 : (Jvm.Cond.code ({ cls := "java/lang/AbstractStringBuilder", name := "<init>", desc := "(I)V" } : Jvm.MethodName) jdk_68_method_2_code (2 : Nat) (Option.none : Option Jvm.ClassFile.FieldType)).before args0 about1 = true := code_word (m := ⟨16, 1⟩) (meth := k16m1) (c := k16c1) (by decide +kernel) rfl rfl rfl (by decide +kernel)
set_option maxRecDepth 65536 in
theorem w_c29 : (Jvm.Cond.code ({ cls := "java/lang/StringBuilder", name := "append", desc := "(Ljava/lang/String;)Ljava/lang/StringBuilder;" } : Jvm.MethodName) jdk_67_method_7_code (2 : Nat) (Option.some (Jvm.ClassFile.FieldType.object "java/lang/StringBuilder"))).before args0 about1 = true := code_word (m := ⟨17, 1⟩) (meth := k17m1) (c := k17c1) (by decide +kernel) rfl rfl rfl (by decide +kernel)
set_option maxRecDepth 65536 in
theorem w_c30 : (Jvm.Cond.code ({ cls := "java/lang/AbstractStringBuilder", name := "append", desc := "(Ljava/lang/String;)Ljava/lang/AbstractStringBuilder;" } : Jvm.MethodName) jdk_68_method_22_code (3 : Nat) (Option.some (Jvm.ClassFile.FieldType.object "java/lang/AbstractStringBuilder"))).before args0 about1 = true := code_word (m := ⟨16, 5⟩) (meth := k16m5) (c := k16c5) (by decide +kernel) rfl rfl rfl (by decide +kernel)
set_option maxRecDepth 65536 in
theorem w_c31 : (Jvm.Cond.code ({ cls := "java/lang/AbstractStringBuilder", name := "ensureCapacityInternal", desc := "(I)V" } : Jvm.MethodName) jdk_68_method_9_code (3 : Nat) (Option.none : Option Jvm.ClassFile.FieldType)).before args0 about1 = true := code_word (m := ⟨16, 3⟩) (meth := k16m3) (c := k16c3) (by decide +kernel) rfl rfl rfl (by decide +kernel)
set_option maxRecDepth 65536 in
theorem w_c32 : (Jvm.Cond.code ({ cls := "java/lang/AbstractStringBuilder", name := "newCapacity", desc := "(I)I" } : Jvm.MethodName) jdk_68_method_10_code (6 : Nat) (Option.some Jvm.ClassFile.FieldType.int)).before args0 about1 = true := code_word (m := ⟨16, 4⟩) (meth := k16m4) (c := k16c4) (by decide +kernel) rfl rfl rfl (by decide +kernel)
set_option maxRecDepth 65536 in
theorem w_c33 : (Jvm.Cond.code ({ cls := "jdk/internal/util/ArraysSupport", name := "newLength", desc := "(III)I" } : Jvm.MethodName) jdk_48_method_27_code (4 : Nat) (Option.some Jvm.ClassFile.FieldType.int)).before args0 about1 = true := code_word (m := ⟨18, 1⟩) (meth := k18m1) (c := k18c1) (by decide +kernel) rfl rfl rfl (by decide +kernel)
set_option maxRecDepth 65536 in
theorem w_c34 : (Jvm.Cond.code ({ cls := "java/lang/Math", name := "max", desc := "(II)I" } : Jvm.MethodName) jdk_29_method_65_code (2 : Nat) (Option.some Jvm.ClassFile.FieldType.int)).before args0 about1 = true := code_word (m := ⟨19, 1⟩) (meth := k19m1) (c := k19c1) (by decide +kernel) rfl rfl rfl (by decide +kernel)
set_option maxRecDepth 65536 in
theorem w_c35 : (Jvm.Cond.code ({ cls := "java/util/Arrays", name := "copyOf", desc := "([BI)[B" } : Jvm.MethodName) jdk_65_method_121_code (3 : Nat) (Option.some (Jvm.ClassFile.FieldType.array Jvm.ClassFile.FieldType.byte))).before args0 about1 = true := code_word (m := ⟨20, 1⟩) (meth := k20m1) (c := k20c1) (by decide +kernel) rfl rfl rfl (by decide +kernel)
set_option maxRecDepth 65536 in
theorem w_c36 : (Jvm.Cond.code ({ cls := "java/lang/Math", name := "min", desc := "(II)I" } : Jvm.MethodName) jdk_29_method_69_code (2 : Nat) (Option.some Jvm.ClassFile.FieldType.int)).before args0 about1 = true := code_word (m := ⟨19, 2⟩) (meth := k19m2) (c := k19c2) (by decide +kernel) rfl rfl rfl (by decide +kernel)
set_option maxRecDepth 65536 in
theorem w_c37 : (Jvm.Cond.code ({ cls := "java/lang/AbstractStringBuilder", name := "putStringAt", desc := "(ILjava/lang/String;)V" } : Jvm.MethodName) jdk_68_method_73_code (3 : Nat) (Option.none : Option Jvm.ClassFile.FieldType)).before args0 about1 = true := code_word (m := ⟨16, 10⟩) (meth := k16m10) (c := k16c10) (by decide +kernel) rfl rfl rfl (by decide +kernel)
set_option maxRecDepth 65536 in
theorem w_c38 : (Jvm.Cond.code ({ cls := "java/lang/AbstractStringBuilder", name := "inflateIfNeededFor", desc := "(Ljava/lang/String;)V" } : Jvm.MethodName) jdk_68_method_71_code (2 : Nat) (Option.none : Option Jvm.ClassFile.FieldType)).before args0 about1 = true := code_word (m := ⟨16, 9⟩) (meth := k16m9) (c := k16c9) (by decide +kernel) rfl rfl rfl (by decide +kernel)
set_option maxRecDepth 65536 in
theorem w_c39 : (Jvm.Cond.code ({ cls := "java/lang/String", name := "getBytes", desc := "([BIB)V" } : Jvm.MethodName) jdk_42_method_147_code (4 : Nat) (Option.none : Option Jvm.ClassFile.FieldType)).before args0 about1 = true := code_word (m := ⟨8, 5⟩) (meth := k8m5) (c := k8c5) (by decide +kernel) rfl rfl rfl (by decide +kernel)
set_option maxRecDepth 65536 in
theorem w_c40 : (Jvm.Cond.code ({ cls := "java/lang/StringBuilder", name := "append", desc := "(J)Ljava/lang/StringBuilder;" } : Jvm.MethodName) jdk_67_method_16_code (3 : Nat) (Option.some (Jvm.ClassFile.FieldType.object "java/lang/StringBuilder"))).before args0 about1 = true := code_word (m := ⟨17, 2⟩) (meth := k17m2) (c := k17c2) (by decide +kernel) rfl rfl rfl (by decide +kernel)
set_option maxRecDepth 65536 in
theorem w_c41 : (Jvm.Cond.code ({ cls := "java/lang/AbstractStringBuilder", name := "append", desc := "(J)Ljava/lang/AbstractStringBuilder;" } : Jvm.MethodName) jdk_68_method_33_code (5 : Nat) (Option.some (Jvm.ClassFile.FieldType.object "java/lang/AbstractStringBuilder"))).before args0 about1 = true := code_word (m := ⟨16, 6⟩) (meth := k16m6) (c := k16c6) (by decide +kernel) rfl rfl rfl (by decide +kernel)
set_option maxRecDepth 65536 in
theorem w_c42 : (Jvm.Cond.code ({ cls := "java/lang/AbstractStringBuilder", name := "isLatin1", desc := "()Z" } : Jvm.MethodName) jdk_68_method_68_code (1 : Nat) (Option.some Jvm.ClassFile.FieldType.boolean)).before args0 about1 = true := code_word (m := ⟨16, 8⟩) (meth := k16m8) (c := k16c8) (by decide +kernel) rfl rfl rfl (by decide +kernel)
set_option maxRecDepth 65536 in
theorem w_c43 : (Jvm.Cond.code ({ cls := "java/lang/StringBuilder", name := "toString", desc := "()Ljava/lang/String;" } : Jvm.MethodName) jdk_67_method_42_code (1 : Nat) (Option.some (Jvm.ClassFile.FieldType.object "java/lang/String"))).before args0 about1 = true := code_word (m := ⟨17, 3⟩) (meth := k17m3) (c := k17c3) (by decide +kernel) rfl rfl rfl (by decide +kernel)
set_option maxRecDepth 65536 in
theorem w_c44 : (Jvm.Cond.code ({ cls := "java/lang/String", name := "<init>", desc := "(Ljava/lang/StringBuilder;)V" } : Jvm.MethodName) jdk_42_method_53_code (2 : Nat) (Option.none : Option Jvm.ClassFile.FieldType)).before args0 about1 = true := code_word (m := ⟨8, 1⟩) (meth := k8m1) (c := k8c1) (by decide +kernel) rfl rfl rfl (by decide +kernel)
set_option maxRecDepth 65536 in
theorem w_c45 : (Jvm.Cond.code ({ cls := "java/lang/String", name := "<init>", desc := "(Ljava/lang/AbstractStringBuilder;Ljava/lang/Void;)V" } : Jvm.MethodName) jdk_42_method_150_code (5 : Nat) (Option.none : Option Jvm.ClassFile.FieldType)).before args0 about1 = true := code_word (m := ⟨8, 6⟩) (meth := k8m6) (c := k8c6) (by decide +kernel) rfl rfl rfl (by decide +kernel)
set_option maxRecDepth 65536 in
theorem w_c46 : (Jvm.Cond.code ({ cls := "java/lang/AbstractStringBuilder", name := "getValue", desc := "()[B" } : Jvm.MethodName) jdk_68_method_64_code (1 : Nat) (Option.some (Jvm.ClassFile.FieldType.array Jvm.ClassFile.FieldType.byte))).before args0 about1 = true := code_word (m := ⟨16, 7⟩) (meth := k16m7) (c := k16c7) (by decide +kernel) rfl rfl rfl (by decide +kernel)
set_option maxRecDepth 65536 in
theorem w_c47 : (Jvm.Cond.code ({ cls := "java/lang/StringBuilder", name := "length", desc := "()I" } : Jvm.MethodName) jdk_67_method_93_code (1 : Nat) (Option.some Jvm.ClassFile.FieldType.int)).before args0 about1 = true := code_word (m := ⟨17, 4⟩) (meth := k17m4) (c := k17c4) (by decide +kernel) rfl rfl rfl (by decide +kernel)
set_option maxRecDepth 65536 in
theorem w_c48 : (Jvm.Cond.code ({ cls := "java/lang/AbstractStringBuilder", name := "length", desc := "()I" } : Jvm.MethodName) jdk_68_method_6_code (1 : Nat) (Option.some Jvm.ClassFile.FieldType.int)).before args0 about1 = true := code_word (m := ⟨16, 2⟩) (meth := k16m2) (c := k16c2) (by decide +kernel) rfl rfl rfl (by decide +kernel)
set_option maxRecDepth 65536 in
theorem w_c49 : (Jvm.Cond.code ({ cls := "java/util/Arrays", name := "copyOfRange", desc := "([BII)[B" } : Jvm.MethodName) jdk_65_method_132_code (3 : Nat) (Option.some (Jvm.ClassFile.FieldType.array Jvm.ClassFile.FieldType.byte))).before args0 about1 = true := code_word (m := ⟨20, 3⟩) (meth := k20m3) (c := k20c3) (by decide +kernel) rfl rfl rfl (by decide +kernel)
set_option maxRecDepth 65536 in
theorem w_c50 : (Jvm.Cond.code ({ cls := "java/util/Arrays", name := "copyOfRangeByte", desc := "([BII)[B" } : Jvm.MethodName) jdk_65_method_133_code (5 : Nat) (Option.some (Jvm.ClassFile.FieldType.array Jvm.ClassFile.FieldType.byte))).before args0 about1 = true := code_word (m := ⟨20, 4⟩) (meth := k20m4) (c := k20c4) (by decide +kernel) rfl rfl rfl (by decide +kernel)
set_option maxRecDepth 65536 in
theorem w_c51 : (Jvm.Cond.code ({ cls := "java/util/Arrays", name := "checkLength", desc := "(II)V" } : Jvm.MethodName) jdk_65_method_131_code (2 : Nat) (Option.none : Option Jvm.ClassFile.FieldType)).before args0 about1 = true := code_word (m := ⟨20, 2⟩) (meth := k20m2) (c := k20c2) (by decide +kernel) rfl rfl rfl (by decide +kernel)
def codes1 : List Jvm.Cond := [Jvm.Cond.code x code maxLocals ret, Jvm.Cond.code ({ cls := "com/example/fides/fides/HybridTimestamp", name := "of", desc := "(JI)Lcom/example/fides/fides/HybridTimestamp;" } : Jvm.MethodName) prog_8_method_2_code (3 : Nat) (Option.some (Jvm.ClassFile.FieldType.object "com/example/fides/fides/HybridTimestamp")), Jvm.Cond.code ({ cls := "com/example/fides/fides/HybridTimestamp", name := "requireInRange", desc := "(Ljava/lang/String;JJ)V" } : Jvm.MethodName) prog_8_method_5_code (5 : Nat) (Option.none : Option Jvm.ClassFile.FieldType), Jvm.Cond.code ({ cls := "com/example/fides/fides/HybridTimestamp", name := "<init>", desc := "(J)V" } : Jvm.MethodName) prog_8_method_1_code (3 : Nat) (Option.none : Option Jvm.ClassFile.FieldType), Jvm.Cond.code ({ cls := "java/lang/Object", name := "<init>", desc := "()V" } : Jvm.MethodName) object_method_1_code (1 : Nat) (Option.none : Option Jvm.ClassFile.FieldType), Jvm.Cond.code ({ cls := "com/example/fides/fides/HybridTimestamp", name := "toString", desc := "()Ljava/lang/String;" } : Jvm.MethodName) prog_8_method_14_code (1 : Nat) (Option.some (Jvm.ClassFile.FieldType.object "java/lang/String")), Jvm.Cond.code ({ cls := "java/lang/Long", name := "toUnsignedString", desc := "(J)Ljava/lang/String;" } : Jvm.MethodName) jdk_35_method_13_code (2 : Nat) (Option.some (Jvm.ClassFile.FieldType.object "java/lang/String")), Jvm.Cond.code ({ cls := "java/lang/Long", name := "toUnsignedString", desc := "(JI)Ljava/lang/String;" } : Jvm.MethodName) jdk_35_method_3_code (7 : Nat) (Option.some (Jvm.ClassFile.FieldType.object "java/lang/String")), Jvm.Cond.code ({ cls := "java/lang/Long", name := "toString", desc := "(JI)Ljava/lang/String;" } : Jvm.MethodName) jdk_35_method_1_code (6 : Nat) (Option.some (Jvm.ClassFile.FieldType.object "java/lang/String")), Jvm.Cond.code ({ cls := "java/lang/Long", name := "toString", desc := "(J)Ljava/lang/String;" } : Jvm.MethodName) jdk_35_method_12_code (4 : Nat) (Option.some (Jvm.ClassFile.FieldType.object "java/lang/String")), Jvm.Cond.code ({ cls := "java/lang/Long", name := "stringSize", desc := "(J)I" } : Jvm.MethodName) jdk_35_method_15_code (6 : Nat) (Option.some Jvm.ClassFile.FieldType.int), Jvm.Cond.code ({ cls := "java/lang/Long", name := "getChars", desc := "(JI[B)I" } : Jvm.MethodName) jdk_35_method_14_code (11 : Nat) (Option.some Jvm.ClassFile.FieldType.int), Jvm.Cond.code ({ cls := "java/lang/String", name := "<init>", desc := "([BB)V" } : Jvm.MethodName) jdk_42_method_151_code (3 : Nat) (Option.none : Option Jvm.ClassFile.FieldType), Jvm.Cond.code ({ cls := "com/example/fides/fides/HybridTimestamp", name := "parse", desc := "(Ljava/lang/String;)Lcom/example/fides/fides/HybridTimestamp;" } : Jvm.MethodName) prog_8_method_3_code (6 : Nat) (Option.some (Jvm.ClassFile.FieldType.object "com/example/fides/fides/HybridTimestamp")), Jvm.Cond.code ({ cls := "java/util/Objects", name := "requireNonNull", desc := "(Ljava/lang/Object;Ljava/lang/String;)Ljava/lang/Object;" } : Jvm.MethodName) jdk_31_method_11_code (2 : Nat) (Option.some (Jvm.ClassFile.FieldType.object "java/lang/Object")), Jvm.Cond.code ({ cls := "java/lang/String", name := "isEmpty", desc := "()Z" } : Jvm.MethodName) jdk_42_method_55_code (1 : Nat) (Option.some Jvm.ClassFile.FieldType.boolean), Jvm.Cond.code ({ cls := "java/lang/String", name := "length", desc := "()I" } : Jvm.MethodName) jdk_42_method_54_code (1 : Nat) (Option.some Jvm.ClassFile.FieldType.int), Jvm.Cond.code ({ cls := "java/lang/String", name := "coder", desc := "()B" } : Jvm.MethodName) jdk_42_method_152_code (1 : Nat) (Option.some Jvm.ClassFile.FieldType.byte), Jvm.Cond.code ({ cls := "java/lang/String", name := "charAt", desc := "(I)C" } : Jvm.MethodName) jdk_42_method_56_code (2 : Nat) (Option.some Jvm.ClassFile.FieldType.char), Jvm.Cond.code ({ cls := "java/lang/String", name := "isLatin1", desc := "()Z" } : Jvm.MethodName) jdk_42_method_154_code (1 : Nat) (Option.some Jvm.ClassFile.FieldType.boolean), Jvm.Cond.code ({ cls := "java/lang/StringLatin1", name := "charAt", desc := "([BI)C" } : Jvm.MethodName) jdk_43_method_2_code (2 : Nat) (Option.some Jvm.ClassFile.FieldType.char), Jvm.Cond.code ({ cls := "java/lang/String", name := "checkIndex", desc := "(II)V" } : Jvm.MethodName) jdk_42_method_155_code (2 : Nat) (Option.none : Option Jvm.ClassFile.FieldType), Jvm.Cond.code ({ cls := "jdk/internal/util/Preconditions", name := "checkIndex", desc := "(IILjava/util/function/BiFunction;)I" } : Jvm.MethodName) jdk_41_method_11_code (3 : Nat) (Option.some Jvm.ClassFile.FieldType.int), Jvm.Cond.code ({ cls := "java/lang/Long", name := "compareUnsigned", desc := "(JJ)I" } : Jvm.MethodName) jdk_35_method_43_code (4 : Nat) (Option.some Jvm.ClassFile.FieldType.int), Jvm.Cond.code ({ cls := "java/lang/Long", name := "compare", desc := "(JJ)I" } : Jvm.MethodName) jdk_35_method_42_code (4 : Nat) (Option.some Jvm.ClassFile.FieldType.int), Jvm.Cond.code ({ cls := "com/example/fides/fides/HybridTimestamp", name := "millis", desc := "()J" } : Jvm.MethodName) prog_8_method_6_code (1 : Nat) (Option.some Jvm.ClassFile.FieldType.long), Jvm.Cond.code ({ cls := "com/example/fides/fides/HybridTimestamp", name := "counter", desc := "()I" } : Jvm.MethodName) prog_8_method_7_code (1 : Nat) (Option.some Jvm.ClassFile.FieldType.int), Jvm.Cond.code ({ cls := "java/lang/StringBuilder", name := "<init>", desc := "()V" } : Jvm.MethodName) jdk_67_method_1_code (1 : Nat) (Option.none : Option Jvm.ClassFile.FieldType), Jvm.Cond.code ({ cls := "java/lang/AbstractStringBuilder", name := "<init>", desc := "(I)V" } : Jvm.MethodName) jdk_68_method_2_code (2 : Nat) (Option.none : Option Jvm.ClassFile.FieldType), Jvm.Cond.code ({ cls := "java/lang/StringBuilder", name := "append", desc := "(Ljava/lang/String;)Ljava/lang/StringBuilder;" } : Jvm.MethodName) jdk_67_method_7_code (2 : Nat) (Option.some (Jvm.ClassFile.FieldType.object "java/lang/StringBuilder")), Jvm.Cond.code ({ cls := "java/lang/AbstractStringBuilder", name := "append", desc := "(Ljava/lang/String;)Ljava/lang/AbstractStringBuilder;" } : Jvm.MethodName) jdk_68_method_22_code (3 : Nat) (Option.some (Jvm.ClassFile.FieldType.object "java/lang/AbstractStringBuilder")), Jvm.Cond.code ({ cls := "java/lang/AbstractStringBuilder", name := "ensureCapacityInternal", desc := "(I)V" } : Jvm.MethodName) jdk_68_method_9_code (3 : Nat) (Option.none : Option Jvm.ClassFile.FieldType), Jvm.Cond.code ({ cls := "java/lang/AbstractStringBuilder", name := "newCapacity", desc := "(I)I" } : Jvm.MethodName) jdk_68_method_10_code (6 : Nat) (Option.some Jvm.ClassFile.FieldType.int), Jvm.Cond.code ({ cls := "jdk/internal/util/ArraysSupport", name := "newLength", desc := "(III)I" } : Jvm.MethodName) jdk_48_method_27_code (4 : Nat) (Option.some Jvm.ClassFile.FieldType.int), Jvm.Cond.code ({ cls := "java/lang/Math", name := "max", desc := "(II)I" } : Jvm.MethodName) jdk_29_method_65_code (2 : Nat) (Option.some Jvm.ClassFile.FieldType.int), Jvm.Cond.code ({ cls := "java/util/Arrays", name := "copyOf", desc := "([BI)[B" } : Jvm.MethodName) jdk_65_method_121_code (3 : Nat) (Option.some (Jvm.ClassFile.FieldType.array Jvm.ClassFile.FieldType.byte)), Jvm.Cond.code ({ cls := "java/lang/Math", name := "min", desc := "(II)I" } : Jvm.MethodName) jdk_29_method_69_code (2 : Nat) (Option.some Jvm.ClassFile.FieldType.int), Jvm.Cond.code ({ cls := "java/lang/AbstractStringBuilder", name := "putStringAt", desc := "(ILjava/lang/String;)V" } : Jvm.MethodName) jdk_68_method_73_code (3 : Nat) (Option.none : Option Jvm.ClassFile.FieldType), Jvm.Cond.code ({ cls := "java/lang/AbstractStringBuilder", name := "inflateIfNeededFor", desc := "(Ljava/lang/String;)V" } : Jvm.MethodName) jdk_68_method_71_code (2 : Nat) (Option.none : Option Jvm.ClassFile.FieldType), Jvm.Cond.code ({ cls := "java/lang/String", name := "getBytes", desc := "([BIB)V" } : Jvm.MethodName) jdk_42_method_147_code (4 : Nat) (Option.none : Option Jvm.ClassFile.FieldType), Jvm.Cond.code ({ cls := "java/lang/StringBuilder", name := "append", desc := "(J)Ljava/lang/StringBuilder;" } : Jvm.MethodName) jdk_67_method_16_code (3 : Nat) (Option.some (Jvm.ClassFile.FieldType.object "java/lang/StringBuilder")), Jvm.Cond.code ({ cls := "java/lang/AbstractStringBuilder", name := "append", desc := "(J)Ljava/lang/AbstractStringBuilder;" } : Jvm.MethodName) jdk_68_method_33_code (5 : Nat) (Option.some (Jvm.ClassFile.FieldType.object "java/lang/AbstractStringBuilder")), Jvm.Cond.code ({ cls := "java/lang/AbstractStringBuilder", name := "isLatin1", desc := "()Z" } : Jvm.MethodName) jdk_68_method_68_code (1 : Nat) (Option.some Jvm.ClassFile.FieldType.boolean), Jvm.Cond.code ({ cls := "java/lang/StringBuilder", name := "toString", desc := "()Ljava/lang/String;" } : Jvm.MethodName) jdk_67_method_42_code (1 : Nat) (Option.some (Jvm.ClassFile.FieldType.object "java/lang/String")), Jvm.Cond.code ({ cls := "java/lang/String", name := "<init>", desc := "(Ljava/lang/StringBuilder;)V" } : Jvm.MethodName) jdk_42_method_53_code (2 : Nat) (Option.none : Option Jvm.ClassFile.FieldType), Jvm.Cond.code ({ cls := "java/lang/String", name := "<init>", desc := "(Ljava/lang/AbstractStringBuilder;Ljava/lang/Void;)V" } : Jvm.MethodName) jdk_42_method_150_code (5 : Nat) (Option.none : Option Jvm.ClassFile.FieldType), Jvm.Cond.code ({ cls := "java/lang/AbstractStringBuilder", name := "getValue", desc := "()[B" } : Jvm.MethodName) jdk_68_method_64_code (1 : Nat) (Option.some (Jvm.ClassFile.FieldType.array Jvm.ClassFile.FieldType.byte)), Jvm.Cond.code ({ cls := "java/lang/StringBuilder", name := "length", desc := "()I" } : Jvm.MethodName) jdk_67_method_93_code (1 : Nat) (Option.some Jvm.ClassFile.FieldType.int), Jvm.Cond.code ({ cls := "java/lang/AbstractStringBuilder", name := "length", desc := "()I" } : Jvm.MethodName) jdk_68_method_6_code (1 : Nat) (Option.some Jvm.ClassFile.FieldType.int), Jvm.Cond.code ({ cls := "java/util/Arrays", name := "copyOfRange", desc := "([BII)[B" } : Jvm.MethodName) jdk_65_method_132_code (3 : Nat) (Option.some (Jvm.ClassFile.FieldType.array Jvm.ClassFile.FieldType.byte)), Jvm.Cond.code ({ cls := "java/util/Arrays", name := "copyOfRangeByte", desc := "([BII)[B" } : Jvm.MethodName) jdk_65_method_133_code (5 : Nat) (Option.some (Jvm.ClassFile.FieldType.array Jvm.ClassFile.FieldType.byte)), Jvm.Cond.code ({ cls := "java/util/Arrays", name := "checkLength", desc := "(II)V" } : Jvm.MethodName) jdk_65_method_131_code (2 : Nat) (Option.none : Option Jvm.ClassFile.FieldType)]
set_option maxRecDepth 65536 in
theorem codes_eq : words1.filter isCode = codes1 := rfl
theorem w_codes : ∀ c ∈ words1.filter isCode, c.before args0 about1 = true := by
  rw [codes_eq]
  intro c hc
  simp only [codes1, List.mem_cons, List.not_mem_nil, or_false] at hc
  rcases hc with rfl | rfl | rfl | rfl | rfl | rfl | rfl | rfl | rfl | rfl | rfl | rfl | rfl | rfl | rfl | rfl | rfl | rfl | rfl | rfl | rfl | rfl | rfl | rfl | rfl | rfl | rfl | rfl | rfl | rfl | rfl | rfl | rfl | rfl | rfl | rfl | rfl | rfl | rfl | rfl | rfl | rfl | rfl | rfl | rfl | rfl | rfl | rfl | rfl | rfl | rfl | rfl
  · exact w_c0
  · exact w_c1
  · exact w_c2
  · exact w_c3
  · exact w_c4
  · exact w_c5
  · exact w_c6
  · exact w_c7
  · exact w_c8
  · exact w_c9
  · exact w_c10
  · exact w_c11
  · exact w_c12
  · exact w_c13
  · exact w_c14
  · exact w_c15
  · exact w_c16
  · exact w_c17
  · exact w_c18
  · exact w_c19
  · exact w_c20
  · exact w_c21
  · exact w_c22
  · exact w_c23
  · exact w_c24
  · exact w_c25
  · exact w_c26
  · exact w_c27
  · exact w_c28
  · exact w_c29
  · exact w_c30
  · exact w_c31
  · exact w_c32
  · exact w_c33
  · exact w_c34
  · exact w_c35
  · exact w_c36
  · exact w_c37
  · exact w_c38
  · exact w_c39
  · exact w_c40
  · exact w_c41
  · exact w_c42
  · exact w_c43
  · exact w_c44
  · exact w_c45
  · exact w_c46
  · exact w_c47
  · exact w_c48
  · exact w_c49
  · exact w_c50
  · exact w_c51
set_option maxRecDepth 65536 in
theorem w_t1 : (words1.take 24).all (fun c => isCode c || c.before args0 about1) = true := by decide +kernel
set_option maxRecDepth 65536 in
theorem w_t2 : ((words1.drop 24).take 24).all (fun c => isCode c || c.before args0 about1) = true := by decide +kernel
set_option maxRecDepth 65536 in
theorem w_t3 : (((words1.drop 24).drop 24).take 24).all (fun c => isCode c || c.before args0 about1) = true := by decide +kernel
set_option maxRecDepth 65536 in
theorem w_t4 : ((((words1.drop 24).drop 24).drop 24).take 24).all (fun c => isCode c || c.before args0 about1) = true := by decide +kernel
set_option maxRecDepth 65536 in
theorem w_t5 : (((((words1.drop 24).drop 24).drop 24).drop 24).take 24).all (fun c => isCode c || c.before args0 about1) = true := by decide +kernel
set_option maxRecDepth 65536 in
theorem w_t6 : ((((((words1.drop 24).drop 24).drop 24).drop 24).drop 24).take 24).all (fun c => isCode c || c.before args0 about1) = true := by decide +kernel
set_option maxRecDepth 65536 in
theorem w_t7 : (((((((words1.drop 24).drop 24).drop 24).drop 24).drop 24).drop 24).take 24).all (fun c => isCode c || c.before args0 about1) = true := by decide +kernel
set_option maxRecDepth 65536 in
theorem w_t8 : ((((((((words1.drop 24).drop 24).drop 24).drop 24).drop 24).drop 24).drop 24).take 24).all (fun c => isCode c || c.before args0 about1) = true := by decide +kernel
set_option maxRecDepth 65536 in
theorem w_t9 : (((((((((words1.drop 24).drop 24).drop 24).drop 24).drop 24).drop 24).drop 24).drop 24).take 24).all (fun c => isCode c || c.before args0 about1) = true := by decide +kernel
set_option maxRecDepth 65536 in
theorem w_t10 : ((((((((((words1.drop 24).drop 24).drop 24).drop 24).drop 24).drop 24).drop 24).drop 24).drop 24).take 24).all (fun c => isCode c || c.before args0 about1) = true := by decide +kernel
set_option maxRecDepth 65536 in
theorem w_t11 : (((((((((((words1.drop 24).drop 24).drop 24).drop 24).drop 24).drop 24).drop 24).drop 24).drop 24).drop 24).take 24).all (fun c => isCode c || c.before args0 about1) = true := by decide +kernel
set_option maxRecDepth 65536 in
theorem w_t12 : (((((((((((words1.drop 24).drop 24).drop 24).drop 24).drop 24).drop 24).drop 24).drop 24).drop 24).drop 24).drop 24).all (fun c => isCode c || c.before args0 about1) = true := by decide +kernel
theorem w_tables : (allAtoms (Jvm.Cond.code x code maxLocals ret :: tables_1)).before args0 about1 = true := by
  rw [allAtoms_all]
  show words1.all (fun c => c.before args0 about1) = true
  refine all_split ?_ w_codes
  rw [← List.take_append_drop 24 words1, List.all_append, w_t1, ← List.take_append_drop 24 (words1.drop 24), List.all_append, w_t2, ← List.take_append_drop 24 ((words1.drop 24).drop 24), List.all_append, w_t3, ← List.take_append_drop 24 (((words1.drop 24).drop 24).drop 24), List.all_append, w_t4, ← List.take_append_drop 24 ((((words1.drop 24).drop 24).drop 24).drop 24), List.all_append, w_t5, ← List.take_append_drop 24 (((((words1.drop 24).drop 24).drop 24).drop 24).drop 24), List.all_append, w_t6, ← List.take_append_drop 24 ((((((words1.drop 24).drop 24).drop 24).drop 24).drop 24).drop 24), List.all_append, w_t7, ← List.take_append_drop 24 (((((((words1.drop 24).drop 24).drop 24).drop 24).drop 24).drop 24).drop 24), List.all_append, w_t8, ← List.take_append_drop 24 ((((((((words1.drop 24).drop 24).drop 24).drop 24).drop 24).drop 24).drop 24).drop 24), List.all_append, w_t9, ← List.take_append_drop 24 (((((((((words1.drop 24).drop 24).drop 24).drop 24).drop 24).drop 24).drop 24).drop 24).drop 24), List.all_append, w_t10, ← List.take_append_drop 24 ((((((((((words1.drop 24).drop 24).drop 24).drop 24).drop 24).drop 24).drop 24).drop 24).drop 24).drop 24), List.all_append, w_t11, w_t12]
  rfl
set_option maxRecDepth 65536 in
theorem w_rest : rest_1_c.before args0 about1 = true := by decide +kernel
set_option maxRecDepth 65536 in
theorem w_case : (Jvm.Cond.and given_1 narrow_1).before args0 about1 = true := by decide +kernel
theorem w_applies : (headSpec (Jvm.Cond.code x code maxLocals ret :: tables_1) room_1).applies x e0.platform about1 = true :=
  (Spec.applies_iff w_frames).mpr ⟨w_running, w_runnable, w_alone, w_named, w_hears, w_ripe, w_room, w_tables⟩
theorem atStart : AtStart classFile x code maxLocals ret World_1 tables_1 room_1 Calls_1 rest_1 Pre_1 launch0 p0 e0 about1 theMethod args0 below0 :=
  ⟨lists_1, trivial, launch0.admits_env _ _ _, launch0.least_env, fairChoices_fair.cas, fairChoices_fair.clock, w_frames, w_args, w_heap, w_applies, trivial, w_rest, w_case⟩
end start1
theorem witness_1 : WitnessClaimed_1 := ⟨start1.p0, start1.e0, start1.about1, start1.theMethod, start1.args0, start1.below0, start1.atStart⟩
end Jvm.Pilot.@@N@@
