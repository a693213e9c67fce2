import JvmDerived
import JvmDerived.Pilot.@@N@@Statement
import JvmDerived.Pilot.@@N@@Code
set_option linter.unusedVariables false
set_option linter.unusedSimpArgs false
namespace Jvm.RoadKit
open Sem ClassFile Op Lib Jvm.Stand Jvm.Free Jvm.LawKit
section New
variable {p : Program} {l : Launch} {e : Env} {R : Room} {s : State} {m : MethodId} {args : Array Value} {below : List Frame} {meth : Method} {c : Code} {T : State} {locs : List Loc} {cells slots : Nat}
theorem retI (X : Stand p l e R s m args below meth c T locs cells slots) (hx : p.tables.exec = Jvm.exec) {pc : Nat} {Ls : Array Slot} {z : Int32} {rest : List Value} (hret : meth.sig.returnType = some .int) (hd : decode c.code pc = .ok (.ireturn, 1)) {fs : List Frame}
    (hl : ∀ (f : JFrame) (acts : List Action), f.method = m → f.locked = none → f.entered = [] → (doReturn e (T.setTop f) acts (some (.int z))).1 = T.setFrames fs) : Steps p.tables e below (T.setTop (mkF m pc Ls (.int z :: rest))) (T.setFrames fs) := by
  have hm' : T.vm.method? m = some meth := X.method'
  have hn : narrow .int (.int z) = .int z := rfl
  show Steps p.tables e below (T.setTop { method := m, pc := pc, locals := Ls, stack := _ :: rest, locked := none }) _
  jvm_step X.here [X.here.top, hx, hd, hm', hret, hn]
  first | (intro acts; rw [hl _ acts rfl rfl rfl]) | rw [hl _ _ rfl rfl rfl]
  exact Steps.refl _
end New
end Jvm.RoadKit
namespace Jvm.Pilot.@@N@@
open Jvm Jvm.ClassFile Sem Op Lib Jvm.Free Jvm.Stand Jvm.LawKit Jvm.RoadKit Bundle Jvm.Pilot.@@N@@.Jvm.D
theorem hq {a0 : Array Value} {Z : State} (hw : ∀ d ∈ tables_1, d.before a0 Z = true) (i : Nat) {d : Jvm.Cond} (h : tables_1[i]? = some d) : d.before a0 Z = true := hw _ (List.mem_of_getElem? h)
def Sts (Z : State) (cst : Int32) (fv : Value) : Prop := Sta Z Z.heap "java/lang/String" "COMPACT_STRINGS" "Z" (.int cst) ∧ ¬ (cst = (0 : Int32)) ∧ True ∧ True ∧ True ∧ Sta Z Z.heap "jdk/internal/util/Preconditions" "SIOOBE_FORMATTER" "Ljava/util/function/BiFunction;" fv ∧ fv.isRef = true
theorem own_narc (k : Int32) (h : 0 ≤ k.toInt ∧ k.toInt ≤ 65535) : nar .char k = k := by
  show k.toUInt32.toUInt16.toUInt32.toInt32 = k
  have c1 := c_i2c k
  exact Int32.toInt_inj.mp (by omega)
theorem own_narc2 (x : Int32) : 0 ≤ (nar .char x).toInt ∧ (nar .char x).toInt ≤ 65535 := by
  have c1 := c_i2c x
  exact ⟨c1.2.1, by have := c1.2.2; show (x.toUInt32.toUInt16.toUInt32.toInt32).toInt ≤ 65535; omega⟩

theorem own_lit (k : Int32) : True := trivial
theorem d38_0 : decode jdk_41_method_11_code 0 = .ok (.iload_n 0, 1) := by decide +kernel
theorem d38_1 : decode jdk_41_method_11_code 1 = .ok (.ifCond .lt 8, 3) := by decide +kernel
theorem d38_4 : decode jdk_41_method_11_code 4 = .ok (.iload_n 0, 1) := by decide +kernel
theorem d38_5 : decode jdk_41_method_11_code 5 = .ok (.iload_n 1, 1) := by decide +kernel
theorem d38_6 : decode jdk_41_method_11_code 6 = .ok (.if_icmp .lt 10, 3) := by decide +kernel
theorem d38_16 : decode jdk_41_method_11_code 16 = .ok (.iload_n 0, 1) := by decide +kernel
theorem d38_17 : decode jdk_41_method_11_code 17 = .ok (.ireturn, 1) := by decide +kernel
def Q38 (Z : State) (p0 : Int32) (p1 : Int32) (fv : Value) (h0 : Heap) (n0 : Nat) (v : Option Value) (h : Heap) (L : List Loc) : Prop := v = some (.int p0) ∧ Fr n0 L ∧ h = h0
theorem ef_rm38 (m : MethodId) (x0 : Int32) (x1 : Int32) (x2 : Value) (hcat2 : x2.category = 1) : entryFrame m #[(.int x0), (.int x1), x2] 3 = mkF m 0 #[.val (.int x0), .val (.int x1), .val x2] [] := by cases x2 <;> first | (rfl) | (exfalso; simp [Value.category] at hcat2)
theorem pnc_jdk_internal_util_Preconditions : plainName "jdk/internal/util/Preconditions" = true := by first | (simp [plainName, overriddenIn]; done) | decide +kernel
set_option maxRecDepth 65536 in
set_option maxHeartbeats 40000000 in
theorem rm38 (l : Launch) (Z : State) (a0 : Array Value) (hw : ∀ d ∈ tables_1, d.before a0 Z = true) (ws : List Jvm.Cond) (p0 : Int32) (p1 : Int32) (fv : Value) (h0 : Heap) (n0 : Nat) (Z0 : n0 ≤ h0.size) (hlo : ¬ (p0 < (0 : Int32))) (hhi : p0 < p1) (hfv : fv.isRef = true) :
  MetFree l (⟨"jdk/internal/util/Preconditions", "checkIndex", "(IILjava/util/function/BiFunction;)I"⟩ : MethodName) (head1 (Jvm.Cond.code (⟨"jdk/internal/util/Preconditions", "checkIndex", "(IILjava/util/function/BiFunction;)I"⟩ : MethodName) jdk_41_method_11_code 3 (some .int) :: ws) ({ frames := 0, cells := 0, slots := 0, locals := 0 } : Room)) (fun a U => a = #[(.int p0), (.int p1), fv] ∧ Z.Warmed39 U.vm ∧ U.heap = h0) (fun _ _ _ _ _ => True) (fun _ U o U' => ∃ v L, o = .returned v ∧ Q38 Z p0 p1 fv h0 n0 v U'.heap L ∧ FrameEnd U o U' L ({ frames := 0, cells := 0, slots := 0, locals := 0 } : Room).cells ({ frames := 0, cells := 0, slots := 0, locals := 0 } : Room).slots) := by
 refine MetFree.of_bodySF (plainFor_of_name pnc_jdk_internal_util_Preconditions) hisR ?_
 intro p e s m args below meth c s₁ Bd hml0 hP hK
 obtain ⟨rfl, hZ, hh⟩ := hP
 have hx := Bd.exec
 have hby := Bd.bytes
 have hml : c.maxLocals = 3 := hml0
 have hown : s.vm.findClass "jdk/internal/util/Preconditions" = some m.cls := findClass_of_methodNamed Bd.named
 have hnm := (name_of_methodNamed Bd.named Bd.method).1
 have X0 : Stand p l e ({ frames := 0, cells := 0, slots := 0, locals := 0 } : Room) s m #[(.int p0), (.int p1), fv] below meth c s₁ [] 0 0 := Stand.of_body Bd
 have e0 : s₁.heap = h0 := by rw [← hh, Bd.state]; rfl
 have N0 := Fr.nil n0
 have kp0 : Keep h0 h0 [] := Keep.refl _ _
 have G0 : ∀ t, Steps p.tables e below (s₁.setTop (mkF m 0 #[iv p0, iv p1, .val fv] [])) t → Steps p.tables e below (s₁.setTop (entryFrame m #[(.int p0), (.int p1), fv] 3)) t := fun t k => castTop (ef_rm38 m p0 p1 fv (Jvm.Free.XT.cat1 hfv)) k
 have G1 : ∀ t, Steps p.tables e below (s₁.setTop (mkF m 1 #[iv p0, iv p1, .val fv] [(.int p0)])) t → Steps p.tables e below (s₁.setTop (entryFrame m #[(.int p0), (.int p1), fv] 3)) t := by
  intro t kt
  refine G0 _ ?_
  refine XS.iloadN X0.here hx rfl (hb hby d38_0) rfl ?_
  exact kt
 have hc1_2 : ¬ (p0 < (0 : Int32)) := hlo
 have G3 : ∀ t, Steps p.tables e below (s₁.setTop (mkF m 6 #[iv p0, iv p1, .val fv] [(.int p1), (.int p0)])) t → Steps p.tables e below (s₁.setTop (entryFrame m #[(.int p0), (.int p1), fv] 3)) t := by
  intro t kt
  refine G1 _ ?_
  refine XS.ifNo X0.here hx rfl (hb hby d38_1) rfl ((if0 _ _).trans (flt hc1_2).1) ?_
  refine XS.iloadN X0.here hx rfl (hb hby d38_4) rfl ?_
  refine XS.iloadN X0.here hx rfl (hb hby d38_5) rfl ?_
  exact kt
 have hc6_4 : p0 < p1 := hhi
 obtain ⟨fs, hr, hrun, hended, hW, hsame⟩ := X0.leave (v := some (.int p0)) (fun h => by rw [Bd.returns] at h; cases h)
 refine ⟨_, _, G3 _ ?_, hrun, hended, _, _, rfl, ?_, ⟨_, rfl⟩, hW, hsame.mono (by decide) (by decide)⟩
 ·skip
  refine XS.icmpYes X0.here hx rfl (pc0 := 6) (pc' := 16) rfl (hb hby d38_6) rfl (tlt hc6_4).1 (by decide) (by decide) ?_
  refine XS.iloadN X0.here hx rfl (hb hby d38_16) rfl ?_
  exact retI X0 hx Bd.returns (hb hby d38_17) hr
 ·show Q38 Z p0 p1 fv h0 n0 _ s₁.heap _
  rw [e0]
  exact ⟨rfl, N0, rfl⟩
theorem d37_0 : decode jdk_42_method_155_code 0 = .ok (.iload_n 0, 1) := by decide +kernel
theorem d37_1 : decode jdk_42_method_155_code 1 = .ok (.iload_n 1, 1) := by decide +kernel
theorem d37_2 : decode jdk_42_method_155_code 2 = .ok (.getstatic 1053, 3) := by decide +kernel
theorem d37_5 : decode jdk_42_method_155_code 5 = .ok (.invokestatic 1059, 3) := by decide +kernel
theorem pd_0 : parseMethodDescriptor "(IILjava/util/function/BiFunction;)I" = some ⟨[.int, .int, (.object "java/util/function/BiFunction")], some .int⟩ := by decide +kernel
theorem d37_8 : decode jdk_42_method_155_code 8 = .ok (.pop, 1) := by decide +kernel
theorem d37_9 : decode jdk_42_method_155_code 9 = .ok (.return_, 1) := by decide +kernel
def Q37 (Z : State) (p0 : Int32) (p1 : Int32) (cst : Int32) (fv : Value) (h0 : Heap) (n0 : Nat) (v : Option Value) (h : Heap) (L : List Loc) : Prop := v = none ∧ Fr n0 L ∧ h = h0
theorem ef_rm37 (m : MethodId) (x0 : Int32) (x1 : Int32) : entryFrame m #[(.int x0), (.int x1)] 2 = mkF m 0 #[.val (.int x0), .val (.int x1)] [] := by first | (simp [entryFrame, mkF, argsToLocals, Value.category]; done) | rfl
theorem pnc_java_lang_String : plainName "java/lang/String" = true := by first | (simp [plainName, overriddenIn]; done) | decide +kernel
set_option maxRecDepth 65536 in
set_option maxHeartbeats 40000000 in
theorem rm37 (l : Launch) (Z : State) (a0 : Array Value) (hw : ∀ d ∈ tables_1, d.before a0 Z = true) (ws : List Jvm.Cond) (p0 : Int32) (p1 : Int32) (cst : Int32) (fv : Value) (h0 : Heap) (n0 : Nat) (Z0 : n0 ≤ h0.size) (O0 : Old Z n0 h0) (hlo : ¬ (p0 < (0 : Int32))) (hhi : p0 < p1) (SS : Sts Z cst fv) :
  MetFree l (⟨"java/lang/String", "checkIndex", "(II)V"⟩ : MethodName) (head1 (Jvm.Cond.code (⟨"java/lang/String", "checkIndex", "(II)V"⟩ : MethodName) jdk_42_method_155_code 2 none :: ws) ({ frames := 1, cells := 0, slots := 0, locals := 14 } : Room)) (fun a U => a = #[(.int p0), (.int p1)] ∧ Z.Warmed39 U.vm ∧ U.heap = h0) (fun _ _ _ _ _ => True) (fun _ U o U' => ∃ v L, o = .returned v ∧ Q37 Z p0 p1 cst fv h0 n0 v U'.heap L ∧ FrameEnd U o U' L ({ frames := 1, cells := 0, slots := 0, locals := 14 } : Room).cells ({ frames := 1, cells := 0, slots := 0, locals := 14 } : Room).slots) := by
 refine MetFree.of_bodySF (plainFor_of_name pnc_java_lang_String) hisR ?_
 intro p e s m args below meth c s₁ Bd hml0 hP hK
 obtain ⟨rfl, hZ, hh⟩ := hP
 have hx := Bd.exec
 have hby := Bd.bytes
 have hml : c.maxLocals = 2 := hml0
 have hown : s.vm.findClass "java/lang/String" = some m.cls := findClass_of_methodNamed Bd.named
 have hnm := (name_of_methodNamed Bd.named Bd.method).1
 have X0 : Stand p l e ({ frames := 1, cells := 0, slots := 0, locals := 14 } : Room) s m #[(.int p0), (.int p1)] below meth c s₁ [] 0 0 := Stand.of_body Bd
 have e0 : s₁.heap = h0 := by rw [← hh, Bd.state]; rfl
 have N0 := Fr.nil n0
 have kp0 : Keep h0 h0 [] := Keep.refl _ _
 have G0 : ∀ t, Steps p.tables e below (s₁.setTop (mkF m 0 #[iv p0, iv p1] [])) t → Steps p.tables e below (s₁.setTop (entryFrame m #[(.int p0), (.int p1)] 2)) t := fun t k => castTop (ef_rm37 m p0 p1) k
 obtain ⟨T1, X1, e1, st1⟩ := getS2 X0 hx hZ hown (host := "") (Or.inl (hq hw 198 rfl)) Via.refl e0 (SS.2.2.2.2.2.1.ext O0.2) (g := (mkF m 2 #[iv p0, iv p1] [(.int p1), (.int p0)])) rfl (hb hby d37_2)
 obtain ⟨_, _, ⟨T2, L2, k2, n2⟩, -, X2, ⟨Lc2, hQ2, l2, y2, z2⟩, st2⟩ := Jvm.LawKit.callS X1 hx (y := (⟨"jdk/internal/util/Preconditions", "checkIndex", "(IILjava/util/function/BiFunction;)I"⟩ : MethodName)) hown (mvT hZ (hq hw 200 rfl)) (mvT hZ (hq hw 201 rfl)) (mvT hZ (hq hw 199 rfl)) (mvT hZ (hq hw 202 rfl)) (by decide) (backOf (W := 0) (rm38 l Z a0 hw [] p0 p1 fv  h0 n0 Z0 hlo hhi SS.2.2.2.2.2.2) hZ (hq hw 202 rfl) (hq hw 199 rfl) (by decide) (by decide)) (g := (mkF m 5 #[iv p0, iv p1] [fv, (.int p1), (.int p0)])) rfl (by rw [hml]; rfl) (argsL := [(.int p0), (.int p1), fv]) (rest := []) (lenOf pd_0 rfl) rfl (by show 2 * 0 + _ ≤ _; exact Nat.le_of_eq rfl) (hb hby d37_5) (fun _ _ => ⟨rfl, e1, (by decide : 0 + 0 ≤ _), (by decide : 0 + 0 ≤ _)⟩)
 dsimp only [Pt.U, Pt.locs, Pt.cells, Pt.slots] at X2 l2 y2 z2 st2 hQ2
 subst l2 y2 z2
 obtain ⟨rfl, N2q, eh2⟩ := hQ2
 have N2 := Fr.app N0 N2q
 obtain ⟨fs, hr, hrun, hended, hW, hsame⟩ := X2.leave (v := none) (fun _ => rfl)
 refine ⟨_, _, G0 _ ?_, hrun, hended, _, _, rfl, ?_, ⟨_, rfl⟩, hW, hsame.mono (by decide) (by decide)⟩
 ·skip
  refine XS.iloadN X0.here hx rfl (hb hby d37_0) rfl ?_
  refine XS.iloadN X0.here hx rfl (hb hby d37_1) rfl ?_
  refine st1 _ ?_
  refine st2 _ ?_
  refine XS.pop X2.here hx rfl (hb hby d37_8) rfl rfl ?_
  exact X2.returnOut hx Bd.returns (hb hby d37_9) hr
 ·show Q37 Z p0 p1 cst fv h0 n0 _ T2.heap _
  rw [eh2]
  exact ⟨rfl, N2, rfl⟩
theorem d17_0 : decode jdk_42_method_152_code 0 = .ok (.getstatic 38, 3) := by decide +kernel
theorem d17_3 : decode jdk_42_method_152_code 3 = .ok (.ifCond .eq 10, 3) := by decide +kernel
theorem d17_6 : decode jdk_42_method_152_code 6 = .ok (.aload_n 0, 1) := by decide +kernel
theorem d17_7 : decode jdk_42_method_152_code 7 = .ok (.getfield 15, 3) := by decide +kernel
theorem d17_10 : decode jdk_42_method_152_code 10 = .ok (.goto 4, 3) := by decide +kernel
theorem d17_14 : decode jdk_42_method_152_code 14 = .ok (.ireturn, 1) := by decide +kernel
def fcoder (cd : Int32) : Int32 := nar .byte cd
def Q17 (Z : State) (r0 : Addr) (cd : Int32) (cst : Int32) (fv : Value) (h0 : Heap) (n0 : Nat) (v : Option Value) (h : Heap) (L : List Loc) : Prop := v = some (.int (fcoder cd)) ∧ Fr n0 L ∧ h = h0
theorem ef_rm17 (m : MethodId) (x0 : Addr) : entryFrame m #[(.ref x0)] 1 = mkF m 0 #[.val (.ref x0)] [] := by first | (simp [entryFrame, mkF, argsToLocals, Value.category]; done) | rfl
set_option maxRecDepth 65536 in
set_option maxHeartbeats 40000000 in
theorem rm17 (l : Launch) (Z : State) (a0 : Array Value) (hw : ∀ d ∈ tables_1, d.before a0 Z = true) (ws : List Jvm.Cond) (r0 : Addr) (cd : Int32) (cst : Int32) (fv : Value) (h0 : Heap) (n0 : Nat) (Z0 : n0 ≤ h0.size) (Fc : Fld Z h0 r0 "java/lang/String" "coder" "B" (.int cd)) (O0 : Old Z n0 h0) (SS : Sts Z cst fv) :
  MetFree l (⟨"java/lang/String", "coder", "()B"⟩ : MethodName) (head1 (Jvm.Cond.code (⟨"java/lang/String", "coder", "()B"⟩ : MethodName) jdk_42_method_152_code 1 (some .byte) :: ws) ({ frames := 0, cells := 0, slots := 0, locals := 0 } : Room)) (fun a U => a = #[(.ref r0)] ∧ Z.Warmed39 U.vm ∧ U.heap = h0) (fun _ _ _ _ _ => True) (fun _ U o U' => ∃ v L, o = .returned v ∧ Q17 Z r0 cd cst fv h0 n0 v U'.heap L ∧ FrameEnd U o U' L ({ frames := 0, cells := 0, slots := 0, locals := 0 } : Room).cells ({ frames := 0, cells := 0, slots := 0, locals := 0 } : Room).slots) := by
 refine MetFree.of_bodySF (plainFor_of_name pnc_java_lang_String) hisR ?_
 intro p e s m args below meth c s₁ Bd hml0 hP hK
 obtain ⟨rfl, hZ, hh⟩ := hP
 have hx := Bd.exec
 have hby := Bd.bytes
 have hml : c.maxLocals = 1 := hml0
 have hown : s.vm.findClass "java/lang/String" = some m.cls := findClass_of_methodNamed Bd.named
 have hnm := (name_of_methodNamed Bd.named Bd.method).1
 have X0 : Stand p l e ({ frames := 0, cells := 0, slots := 0, locals := 0 } : Room) s m #[(.ref r0)] below meth c s₁ [] 0 0 := Stand.of_body Bd
 have e0 : s₁.heap = h0 := by rw [← hh, Bd.state]; rfl
 have N0 := Fr.nil n0
 have kp0 : Keep h0 h0 [] := Keep.refl _ _
 have G0 : ∀ t, Steps p.tables e below (s₁.setTop (mkF m 0 #[rv r0] [])) t → Steps p.tables e below (s₁.setTop (entryFrame m #[(.ref r0)] 1)) t := fun t k => castTop (ef_rm17 m r0) k
 obtain ⟨T1, X1, e1, st1⟩ := getS2 X0 hx hZ hown (host := "") (Or.inl (hq hw 14 rfl)) Via.refl e0 (SS.1.ext O0.2) (g := (mkF m 0 #[rv r0] [])) rfl (hb hby d17_0)
 have G2 : ∀ t, Steps p.tables e below (T1.setTop (mkF m 3 #[rv r0] [(.int cst)])) t → Steps p.tables e below (s₁.setTop (entryFrame m #[(.ref r0)] 1)) t := by
  intro t kt
  refine G0 _ ?_
  refine st1 _ ?_
  exact kt
 have hc3_3 : ¬ (cst = (0 : Int32)) := SS.2.1
 obtain ⟨T4, X4, e4, st4⟩ := getF X1 hx hZ hown (host := "") (Or.inl (hq hw 26 rfl)) Via.refl e1 Fc (g := (mkF m 7 #[rv r0] [(.ref r0)])) rfl rfl (hb hby d17_7)
 obtain ⟨fs, hr, hrun, hended, hW, hsame⟩ := X4.leave (v := some (.int (nar .byte cd))) (fun h => by rw [Bd.returns] at h; cases h)
 refine ⟨_, _, G2 _ ?_, hrun, hended, _, _, rfl, ?_, ⟨_, rfl⟩, hW, hsame.mono (by decide) (by decide)⟩
 ·skip
  refine XS.ifNo X1.here hx rfl (hb hby d17_3) rfl ((if0 _ _).trans (feq hc3_3).1) ?_
  refine XS.aloadN X1.here hx rfl (hb hby d17_6) rfl rfl ?_
  refine st4 _ ?_
  refine XS.goto X4.here hx rfl (pc0 := 10) (pc' := 14) rfl (hb hby d17_10) (by decide) (by decide) ?_
  exact retN X4 hx (t := .byte) Bd.returns (by simp) (hb hby d17_14) hr
 ·show Q17 Z r0 cd cst fv h0 n0 _ T4.heap _
  rw [e4]
  exact ⟨by rw [fcoder], N0, rfl⟩
theorem d35_0 : decode jdk_42_method_154_code 0 = .ok (.getstatic 38, 3) := by decide +kernel
theorem d35_3 : decode jdk_42_method_154_code 3 = .ok (.ifCond .eq 14, 3) := by decide +kernel
theorem d35_6 : decode jdk_42_method_154_code 6 = .ok (.aload_n 0, 1) := by decide +kernel
theorem d35_7 : decode jdk_42_method_154_code 7 = .ok (.getfield 15, 3) := by decide +kernel
theorem d35_10 : decode jdk_42_method_154_code 10 = .ok (.ifCond .ne 7, 3) := by decide +kernel
theorem d35_13 : decode jdk_42_method_154_code 13 = .ok (.iconst 1, 1) := by decide +kernel
theorem d35_14 : decode jdk_42_method_154_code 14 = .ok (.goto 4, 3) := by decide +kernel
theorem d35_18 : decode jdk_42_method_154_code 18 = .ok (.ireturn, 1) := by decide +kernel
theorem d35_17 : decode jdk_42_method_154_code 17 = .ok (.iconst 0, 1) := by decide +kernel
def fisLatin1 (cd : Int32) : Int32 := if cd = (0 : Int32) then ((1 : Int32)) else ((0 : Int32))
def Q35 (Z : State) (r0 : Addr) (cd : Int32) (cst : Int32) (fv : Value) (h0 : Heap) (n0 : Nat) (v : Option Value) (h : Heap) (L : List Loc) : Prop := v = some (.int (fisLatin1 cd)) ∧ Fr n0 L ∧ h = h0
theorem ef_rm35 (m : MethodId) (x0 : Addr) : entryFrame m #[(.ref x0)] 1 = mkF m 0 #[.val (.ref x0)] [] := by first | (simp [entryFrame, mkF, argsToLocals, Value.category]; done) | rfl
set_option maxRecDepth 65536 in
set_option maxHeartbeats 40000000 in
theorem rm35 (l : Launch) (Z : State) (a0 : Array Value) (hw : ∀ d ∈ tables_1, d.before a0 Z = true) (ws : List Jvm.Cond) (r0 : Addr) (cd : Int32) (cst : Int32) (fv : Value) (h0 : Heap) (n0 : Nat) (Z0 : n0 ≤ h0.size) (Fc : Fld Z h0 r0 "java/lang/String" "coder" "B" (.int cd)) (O0 : Old Z n0 h0) (SS : Sts Z cst fv) :
  MetFree l (⟨"java/lang/String", "isLatin1", "()Z"⟩ : MethodName) (head1 (Jvm.Cond.code (⟨"java/lang/String", "isLatin1", "()Z"⟩ : MethodName) jdk_42_method_154_code 1 (some .boolean) :: ws) ({ frames := 0, cells := 0, slots := 0, locals := 0 } : Room)) (fun a U => a = #[(.ref r0)] ∧ Z.Warmed39 U.vm ∧ U.heap = h0) (fun _ _ _ _ _ => True) (fun _ U o U' => ∃ v L, o = .returned v ∧ Q35 Z r0 cd cst fv h0 n0 v U'.heap L ∧ FrameEnd U o U' L ({ frames := 0, cells := 0, slots := 0, locals := 0 } : Room).cells ({ frames := 0, cells := 0, slots := 0, locals := 0 } : Room).slots) := by
 refine MetFree.of_bodySF (plainFor_of_name pnc_java_lang_String) hisR ?_
 intro p e s m args below meth c s₁ Bd hml0 hP hK
 obtain ⟨rfl, hZ, hh⟩ := hP
 have hx := Bd.exec
 have hby := Bd.bytes
 have hml : c.maxLocals = 1 := hml0
 have hown : s.vm.findClass "java/lang/String" = some m.cls := findClass_of_methodNamed Bd.named
 have hnm := (name_of_methodNamed Bd.named Bd.method).1
 have X0 : Stand p l e ({ frames := 0, cells := 0, slots := 0, locals := 0 } : Room) s m #[(.ref r0)] below meth c s₁ [] 0 0 := Stand.of_body Bd
 have e0 : s₁.heap = h0 := by rw [← hh, Bd.state]; rfl
 have N0 := Fr.nil n0
 have kp0 : Keep h0 h0 [] := Keep.refl _ _
 have G0 : ∀ t, Steps p.tables e below (s₁.setTop (mkF m 0 #[rv r0] [])) t → Steps p.tables e below (s₁.setTop (entryFrame m #[(.ref r0)] 1)) t := fun t k => castTop (ef_rm35 m r0) k
 obtain ⟨T1, X1, e1, st1⟩ := getS2 X0 hx hZ hown (host := "") (Or.inl (hq hw 14 rfl)) Via.refl e0 (SS.1.ext O0.2) (g := (mkF m 0 #[rv r0] [])) rfl (hb hby d35_0)
 have G2 : ∀ t, Steps p.tables e below (T1.setTop (mkF m 3 #[rv r0] [(.int cst)])) t → Steps p.tables e below (s₁.setTop (entryFrame m #[(.ref r0)] 1)) t := by
  intro t kt
  refine G0 _ ?_
  refine st1 _ ?_
  exact kt
 have hc3_3 : ¬ (cst = (0 : Int32)) := SS.2.1
 obtain ⟨T4, X4, e4, st4⟩ := getF X1 hx hZ hown (host := "") (Or.inl (hq hw 26 rfl)) Via.refl e1 Fc (g := (mkF m 7 #[rv r0] [(.ref r0)])) rfl rfl (hb hby d35_7)
 have G5 : ∀ t, Steps p.tables e below (T4.setTop (mkF m 10 #[rv r0] [(.int cd)])) t → Steps p.tables e below (s₁.setTop (entryFrame m #[(.ref r0)] 1)) t := by
  intro t kt
  refine G2 _ ?_
  refine XS.ifNo X1.here hx rfl (hb hby d35_3) rfl ((if0 _ _).trans (feq hc3_3).1) ?_
  refine XS.aloadN X1.here hx rfl (hb hby d35_6) rfl rfl ?_
  refine st4 _ ?_
  exact kt
 by_cases hc10_6 : cd = (0 : Int32)
 ·skip
  obtain ⟨fs, hr, hrun, hended, hW, hsame⟩ := X4.leave (v := some (.int (1 : Int32))) (fun h => by rw [Bd.returns] at h; cases h)
  refine ⟨_, _, G5 _ ?_, hrun, hended, _, _, rfl, ?_, ⟨_, rfl⟩, hW, hsame.mono (by decide) (by decide)⟩
  ·skip
   refine XS.ifNo X4.here hx rfl (hb hby d35_10) rfl ((if0 _ _).trans (teq hc10_6).2) ?_
   refine XS.iconst X4.here hx rfl (hb hby d35_13) ?_
   refine XS.goto X4.here hx rfl (pc0 := 14) (pc' := 18) rfl (hb hby d35_14) (by decide) (by decide) ?_
   exact retN X4 hx (t := .boolean) Bd.returns (by simp) (hb hby d35_18) hr
  ·show Q35 Z r0 cd cst fv h0 n0 _ T4.heap _
   rw [e4]
   exact ⟨by rw [fisLatin1, if_pos hc10_6], N0, rfl⟩
 ·skip
  obtain ⟨fs, hr, hrun, hended, hW, hsame⟩ := X4.leave (v := some (.int (0 : Int32))) (fun h => by rw [Bd.returns] at h; cases h)
  refine ⟨_, _, G5 _ ?_, hrun, hended, _, _, rfl, ?_, ⟨_, rfl⟩, hW, hsame.mono (by decide) (by decide)⟩
  ·skip
   refine XS.ifYes X4.here hx rfl (pc0 := 10) (pc' := 17) rfl (hb hby d35_10) rfl ((if0 _ _).trans (feq hc10_6).2) (by decide) (by decide) ?_
   refine XS.iconst X4.here hx rfl (hb hby d35_17) ?_
   exact retN X4 hx (t := .boolean) Bd.returns (by simp) (hb hby d35_18) hr
  ·show Q35 Z r0 cd cst fv h0 n0 _ T4.heap _
   rw [e4]
   exact ⟨by rw [fisLatin1, if_neg hc10_6], N0, rfl⟩
theorem d16_0 : decode jdk_42_method_54_code 0 = .ok (.aload_n 0, 1) := by decide +kernel
theorem d16_1 : decode jdk_42_method_54_code 1 = .ok (.getfield 9, 3) := by decide +kernel
theorem d16_4 : decode jdk_42_method_54_code 4 = .ok (.arraylength, 1) := by decide +kernel
theorem d16_5 : decode jdk_42_method_54_code 5 = .ok (.aload_n 0, 1) := by decide +kernel
theorem d16_6 : decode jdk_42_method_54_code 6 = .ok (.invokevirtual 335, 3) := by decide +kernel
theorem pd_1 : parseMethodDescriptor "()B" = some ⟨[], some .byte⟩ := by decide +kernel
theorem d16_9 : decode jdk_42_method_54_code 9 = .ok (.ishr, 1) := by decide +kernel
theorem d16_10 : decode jdk_42_method_54_code 10 = .ok (.ireturn, 1) := by decide +kernel
def Q16 (Z : State) (r0 : Addr) (cd : Int32) (ta : Addr) (kk : ClassId) (nn : Int32) (vs : List Value) (r : Int32) (cst : Int32) (fv : Value) (h0 : Heap) (n0 : Nat) (v : Option Value) (h : Heap) (L : List Loc) : Prop := v = some (.int r) ∧ Fr n0 L ∧ h = h0
theorem ef_rm16 (m : MethodId) (x0 : Addr) : entryFrame m #[(.ref x0)] 1 = mkF m 0 #[.val (.ref x0)] [] := by first | (simp [entryFrame, mkF, argsToLocals, Value.category]; done) | rfl
set_option maxRecDepth 65536 in
set_option maxHeartbeats 40000000 in
theorem rm16 (l : Launch) (Z : State) (a0 : Array Value) (hw : ∀ d ∈ tables_1, d.before a0 Z = true) (ws : List Jvm.Cond) (r0 : Addr) (cd : Int32) (ta : Addr) (kk : ClassId) (nn : Int32) (vs : List Value) (r : Int32) (cst : Int32) (fv : Value) (h0 : Heap) (n0 : Nat) (Z0 : n0 ≤ h0.size) (E0 : Exa Z h0 r0 "java/lang/String") (Fc : Fld Z h0 r0 "java/lang/String" "coder" "B" (.int cd)) (Fv : Fld Z h0 r0 "java/lang/String" "value" "[B" (.ref ta)) (V0 : Arv Z h0 ta kk .byte nn vs (.int (0 : Int32))) (O0 : Old Z n0 h0) (hres : (nn >>> ((fcoder cd) &&& 31)) = r) (SS : Sts Z cst fv) :
  MetFree l (⟨"java/lang/String", "length", "()I"⟩ : MethodName) (head1 (Jvm.Cond.code (⟨"java/lang/String", "length", "()I"⟩ : MethodName) jdk_42_method_54_code 1 (some .int) :: ws) ({ frames := 1, cells := 0, slots := 0, locals := 13 } : Room)) (fun a U => a = #[(.ref r0)] ∧ Z.Warmed39 U.vm ∧ U.heap = h0) (fun _ _ _ _ _ => True) (fun _ U o U' => ∃ v L, o = .returned v ∧ Q16 Z r0 cd ta kk nn vs r cst fv h0 n0 v U'.heap L ∧ FrameEnd U o U' L ({ frames := 1, cells := 0, slots := 0, locals := 13 } : Room).cells ({ frames := 1, cells := 0, slots := 0, locals := 13 } : Room).slots) := by
 refine MetFree.of_bodySF (plainFor_of_name pnc_java_lang_String) hisR ?_
 intro p e s m args below meth c s₁ Bd hml0 hP hK
 obtain ⟨rfl, hZ, hh⟩ := hP
 have hx := Bd.exec
 have hby := Bd.bytes
 have hml : c.maxLocals = 1 := hml0
 have hown : s.vm.findClass "java/lang/String" = some m.cls := findClass_of_methodNamed Bd.named
 have hnm := (name_of_methodNamed Bd.named Bd.method).1
 have X0 : Stand p l e ({ frames := 1, cells := 0, slots := 0, locals := 13 } : Room) s m #[(.ref r0)] below meth c s₁ [] 0 0 := Stand.of_body Bd
 have e0 : s₁.heap = h0 := by rw [← hh, Bd.state]; rfl
 have N0 := Fr.nil n0
 have kp0 : Keep h0 h0 [] := Keep.refl _ _
 have G0 : ∀ t, Steps p.tables e below (s₁.setTop (mkF m 0 #[rv r0] [])) t → Steps p.tables e below (s₁.setTop (entryFrame m #[(.ref r0)] 1)) t := fun t k => castTop (ef_rm16 m r0) k
 obtain ⟨T1, X1, e1, st1⟩ := getF X0 hx hZ hown (host := "") (Or.inl (hq hw 28 rfl)) Via.refl e0 Fv (g := (mkF m 1 #[rv r0] [(.ref r0)])) rfl rfl (hb hby d16_1)
 obtain ⟨cl2, Ar2, q2, S2, M2, H2, G2⟩ := id V0
 obtain ⟨cq3, kq3, q3a, q3b, q3c⟩ := isOf hZ e1 E0
 obtain ⟨_, _, ⟨T3, L3, k3, n3⟩, -, X3, ⟨Lc3, hQ3, l3, y3, z3⟩, st3⟩ := X1.virtualBack hx (y := (⟨"java/lang/String", "coder", "()B"⟩ : MethodName)) (z := (⟨"java/lang/String", "coder", "()B"⟩ : MethodName)) hown (mvT hZ (hq hw 98 rfl)) (mvT hZ (hq hw 99 rfl)) (notFace_of_selects (args := #[]) (mvT hZ (hq hw 101 rfl))) (mvT hZ (hq hw 101 rfl)) (mvT hZ (hq hw 100 rfl)) (by decide) (backOf (W := 1) (rm17 l Z a0 hw [] r0 cd cst fv h0 n0 Z0 Fc O0  SS) hZ (hq hw 102 rfl) (hq hw 3 rfl) (by decide) (by decide)) q3a q3c (g := (mkF m 6 #[rv r0] [(.ref r0), (.int nn)])) rfl (by rw [hml]; rfl) (Steps.refl _) (argsL := []) (rest := [(.int nn)]) (lenOf pd_1 rfl) rfl (by show 2 * 0 + _ ≤ _; exact Nat.le_of_eq rfl) (hb hby d16_6) (fun _ _ => ⟨rfl, e1, (by decide : 0 + 0 ≤ _), (by decide : 0 + 0 ≤ _)⟩)
 dsimp only [Pt.U, Pt.locs, Pt.cells, Pt.slots] at X3 l3 y3 z3 st3 hQ3
 subst l3 y3 z3
 obtain ⟨rfl, N3q, eh3⟩ := hQ3
 have N3 := Fr.app N0 N3q
 obtain ⟨fs, hr, hrun, hended, hW, hsame⟩ := X3.leave (v := some (.int (nn >>> ((fcoder cd) &&& 31)))) (fun h => by rw [Bd.returns] at h; cases h)
 refine ⟨_, _, G0 _ ?_, hrun, hended, _, _, rfl, ?_, ⟨_, rfl⟩, hW, hsame.mono (by decide) (by decide)⟩
 ·skip
  refine XS.aloadN X0.here hx rfl (hb hby d16_0) rfl rfl ?_
  refine st1 _ ?_
  refine X1.arraylength hx (by rw [e1]; exact Ar2.1) (State.isArrayOf_alike hZ.alike Ar2.2.1) (g := (mkF m 4 #[rv r0] [(.ref ta)])) rfl rfl (hb hby d16_4) _ ?_
  rw [len_of S2 M2]
  refine XS.aloadN X1.here hx rfl (hb hby d16_5) rfl rfl ?_
  refine st3.trans ?_
  refine XS.ishr X3.here hx rfl (hb hby d16_9) rfl ?_
  exact retI X3 hx Bd.returns (hb hby d16_10) hr
 ·show Q16 Z r0 cd ta kk nn vs r cst fv h0 n0 _ T3.heap _
  rw [eh3]
  exact ⟨by rw [hres], N3, rfl⟩
theorem d36_0 : decode jdk_43_method_2_code 0 = .ok (.iload_n 1, 1) := by decide +kernel
theorem d36_1 : decode jdk_43_method_2_code 1 = .ok (.aload_n 0, 1) := by decide +kernel
theorem d36_2 : decode jdk_43_method_2_code 2 = .ok (.arraylength, 1) := by decide +kernel
theorem d36_3 : decode jdk_43_method_2_code 3 = .ok (.invokestatic 9, 3) := by decide +kernel
theorem pd_2 : parseMethodDescriptor "(II)V" = some ⟨[.int, .int], none⟩ := by decide +kernel
theorem d36_6 : decode jdk_43_method_2_code 6 = .ok (.aload_n 0, 1) := by decide +kernel
theorem d36_7 : decode jdk_43_method_2_code 7 = .ok (.iload_n 1, 1) := by decide +kernel
theorem d36_8 : decode jdk_43_method_2_code 8 = .ok (.baload, 1) := by decide +kernel
theorem d36_9 : decode jdk_43_method_2_code 9 = .ok (.sipush 255, 3) := by decide +kernel
theorem d36_12 : decode jdk_43_method_2_code 12 = .ok (.iand, 1) := by decide +kernel
theorem d36_13 : decode jdk_43_method_2_code 13 = .ok (.i2c, 1) := by decide +kernel
theorem d36_14 : decode jdk_43_method_2_code 14 = .ok (.ireturn, 1) := by decide +kernel
def fchL (x : Int32) : Int32 := nar .char ((x &&& (255 : Int32)).toUInt32.toUInt16.toUInt32.toInt32)
def Q36 (Z : State) (r0 : Addr) (p1 : Int32) (kk : ClassId) (nn : Int32) (vs : List Value) (x : Int32) (cst : Int32) (fv : Value) (h0 : Heap) (n0 : Nat) (v : Option Value) (h : Heap) (L : List Loc) : Prop := v = some (.int (fchL x)) ∧ Fr n0 L ∧ h = h0
theorem ef_rm36 (m : MethodId) (x0 : Addr) (x1 : Int32) : entryFrame m #[(.ref x0), (.int x1)] 2 = mkF m 0 #[.val (.ref x0), .val (.int x1)] [] := by first | (simp [entryFrame, mkF, argsToLocals, Value.category]; done) | rfl
theorem pnc_java_lang_StringLatin1 : plainName "java/lang/StringLatin1" = true := by first | (simp [plainName, overriddenIn]; done) | decide +kernel
set_option maxRecDepth 65536 in
set_option maxHeartbeats 40000000 in
theorem rm36 (l : Launch) (Z : State) (a0 : Array Value) (hw : ∀ d ∈ tables_1, d.before a0 Z = true) (ws : List Jvm.Cond) (r0 : Addr) (p1 : Int32) (kk : ClassId) (nn : Int32) (vs : List Value) (x : Int32) (cst : Int32) (fv : Value) (h0 : Heap) (n0 : Nat) (Z0 : n0 ≤ h0.size) (V0 : Arv Z h0 r0 kk .byte nn vs (.int (0 : Int32))) (O0 : Old Z n0 h0) (hlo : ¬ (p1 < (0 : Int32))) (hhi : p1 < nn) (g0 : vs.getD (p1).toNatClampNeg (.int (0 : Int32)) = .int x) (SS : Sts Z cst fv) :
  MetFree l (⟨"java/lang/StringLatin1", "charAt", "([BI)C"⟩ : MethodName) (head1 (Jvm.Cond.code (⟨"java/lang/StringLatin1", "charAt", "([BI)C"⟩ : MethodName) jdk_43_method_2_code 2 (some .char) :: ws) ({ frames := 2, cells := 0, slots := 0, locals := 27 } : Room)) (fun a U => a = #[(.ref r0), (.int p1)] ∧ Z.Warmed39 U.vm ∧ U.heap = h0) (fun _ _ _ _ _ => True) (fun _ U o U' => ∃ v L, o = .returned v ∧ Q36 Z r0 p1 kk nn vs x cst fv h0 n0 v U'.heap L ∧ FrameEnd U o U' L ({ frames := 2, cells := 0, slots := 0, locals := 27 } : Room).cells ({ frames := 2, cells := 0, slots := 0, locals := 27 } : Room).slots) := by
 refine MetFree.of_bodySF (plainFor_of_name pnc_java_lang_StringLatin1) hisR ?_
 intro p e s m args below meth c s₁ Bd hml0 hP hK
 obtain ⟨rfl, hZ, hh⟩ := hP
 have hx := Bd.exec
 have hby := Bd.bytes
 have hml : c.maxLocals = 2 := hml0
 have hown : s.vm.findClass "java/lang/StringLatin1" = some m.cls := findClass_of_methodNamed Bd.named
 have hnm := (name_of_methodNamed Bd.named Bd.method).1
 have X0 : Stand p l e ({ frames := 2, cells := 0, slots := 0, locals := 27 } : Room) s m #[(.ref r0), (.int p1)] below meth c s₁ [] 0 0 := Stand.of_body Bd
 have e0 : s₁.heap = h0 := by rw [← hh, Bd.state]; rfl
 have N0 := Fr.nil n0
 have kp0 : Keep h0 h0 [] := Keep.refl _ _
 have G0 : ∀ t, Steps p.tables e below (s₁.setTop (mkF m 0 #[rv r0, iv p1] [])) t → Steps p.tables e below (s₁.setTop (entryFrame m #[(.ref r0), (.int p1)] 2)) t := fun t k => castTop (ef_rm36 m r0 p1) k
 obtain ⟨cl, Ar, qk, Sz, Mz, Hz, Gz⟩ := id V0
 have hin0 : ¬ (p1 < 0 ∨ cl.slots.size ≤ (p1).toNatClampNeg) := inb_of Sz ⟨hlo, hhi⟩
 have hat0 : cl.slots[(p1).toNatClampNeg]? = some (.int x) := Hz.at hin0 g0
 obtain ⟨cl1, Ar1, q1, S1, M1, H1, G1⟩ := id V0
 obtain ⟨_, _, ⟨T2, L2, k2, n2⟩, -, X2, ⟨Lc2, hQ2, l2, y2, z2⟩, st2⟩ := Jvm.LawKit.callS X0 hx (y := (⟨"java/lang/String", "checkIndex", "(II)V"⟩ : MethodName)) hown (mvT hZ (hq hw 195 rfl)) (mvT hZ (hq hw 196 rfl)) (mvT hZ (hq hw 3 rfl)) (mvT hZ (hq hw 197 rfl)) (by decide) (backOf (W := 0) (rm37 l Z a0 hw [] p1 nn  cst fv h0 n0 Z0  O0 hlo hhi SS) hZ (hq hw 197 rfl) (hq hw 3 rfl) (by decide) (by decide)) (g := (mkF m 3 #[rv r0, iv p1] [(.int nn), (.int p1)])) rfl (by rw [hml]; rfl) (argsL := [(.int p1), (.int nn)]) (rest := []) (lenOf pd_2 rfl) rfl (by show 2 * 0 + _ ≤ _; exact Nat.le_of_eq rfl) (hb hby d36_3) (fun _ _ => ⟨rfl, e0, (by decide : 0 + 0 ≤ _), (by decide : 0 + 0 ≤ _)⟩)
 dsimp only [Pt.U, Pt.locs, Pt.cells, Pt.slots] at X2 l2 y2 z2 st2 hQ2
 subst l2 y2 z2
 obtain ⟨rfl, N2q, eh2⟩ := hQ2
 have N2 := Fr.app N0 N2q
 obtain ⟨fs, hr, hrun, hended, hW, hsame⟩ := X2.leave (v := some (.int (nar .char ((x &&& (255 : Int32)).toUInt32.toUInt16.toUInt32.toInt32)))) (fun h => by rw [Bd.returns] at h; cases h)
 refine ⟨_, _, G0 _ ?_, hrun, hended, _, _, rfl, ?_, ⟨_, rfl⟩, hW, hsame.mono (by decide) (by decide)⟩
 ·skip
  refine XS.iloadN X0.here hx rfl (hb hby d36_0) rfl ?_
  refine XS.aloadN X0.here hx rfl (hb hby d36_1) rfl rfl ?_
  refine X0.arraylength hx (by rw [e0]; exact Ar1.1) (State.isArrayOf_alike hZ.alike Ar1.2.1) (g := (mkF m 2 #[rv r0, iv p1] [(.ref r0), (.int p1)])) rfl rfl (hb hby d36_2) _ ?_
  rw [len_of S1 M1]
  refine st2 _ ?_
  refine XS.aloadN X2.here hx rfl (hb hby d36_6) rfl rfl ?_
  refine XS.iloadN X2.here hx rfl (hb hby d36_7) rfl ?_
  refine X2.baloadBytes hx (j := p1) (v := (.int x)) (by rw [eh2]; exact Ar.1) (State.isArrayOf_alike hZ.alike Ar.2.1) Ar.2.2 hin0 hat0 (g := (mkF m 8 #[rv r0, iv p1] [(.int p1), (.ref r0)])) rfl rfl (hb hby d36_8) _ ?_
  refine XS.sipush X2.here hx rfl (hb hby d36_9) ?_
  refine XS.iand X2.here hx rfl (hb hby d36_12) rfl ?_
  refine XS.i2c X2.here hx rfl (hb hby d36_13) rfl ?_
  exact retN X2 hx (t := .char) Bd.returns (by simp) (hb hby d36_14) hr
 ·show Q36 Z r0 p1 kk nn vs x cst fv h0 n0 _ T2.heap _
  rw [eh2]
  exact ⟨by rw [fchL], N2, rfl⟩
theorem d34_0 : decode jdk_42_method_56_code 0 = .ok (.aload_n 0, 1) := by decide +kernel
theorem d34_1 : decode jdk_42_method_56_code 1 = .ok (.invokevirtual 492, 3) := by decide +kernel
theorem pd_3 : parseMethodDescriptor "()Z" = some ⟨[], some .boolean⟩ := by decide +kernel
theorem d34_4 : decode jdk_42_method_56_code 4 = .ok (.ifCond .eq 12, 3) := by decide +kernel
theorem d34_7 : decode jdk_42_method_56_code 7 = .ok (.aload_n 0, 1) := by decide +kernel
theorem d34_8 : decode jdk_42_method_56_code 8 = .ok (.getfield 9, 3) := by decide +kernel
theorem d34_11 : decode jdk_42_method_56_code 11 = .ok (.iload_n 1, 1) := by decide +kernel
theorem d34_12 : decode jdk_42_method_56_code 12 = .ok (.invokestatic 495, 3) := by decide +kernel
theorem pd_4 : parseMethodDescriptor "([BI)C" = some ⟨[(.array .byte), .int], some .char⟩ := by decide +kernel
theorem d34_15 : decode jdk_42_method_56_code 15 = .ok (.ireturn, 1) := by decide +kernel
def QChL (Z : State) (r0 : Addr) (p1 : Int32) (ta : Addr) (kk : ClassId) (nn : Int32) (vs : List Value) (x r : Int32) (cst : Int32) (fv : Value) (h0 : Heap) (n0 : Nat) (v : Option Value) (h : Heap) (L : List Loc) : Prop := v = some (.int r) ∧ Fr n0 L ∧ h = h0
theorem ef_rmChL (m : MethodId) (x0 : Addr) (x1 : Int32) : entryFrame m #[(.ref x0), (.int x1)] 2 = mkF m 0 #[.val (.ref x0), .val (.int x1)] [] := by first | (simp [entryFrame, mkF, argsToLocals, Value.category]; done) | rfl
set_option maxRecDepth 65536 in
set_option maxHeartbeats 40000000 in
theorem rmChL (l : Launch) (Z : State) (a0 : Array Value) (hw : ∀ d ∈ tables_1, d.before a0 Z = true) (ws : List Jvm.Cond) (r0 : Addr) (p1 : Int32) (ta : Addr) (kk : ClassId) (nn : Int32) (vs : List Value) (x r : Int32) (cst : Int32) (fv : Value) (h0 : Heap) (n0 : Nat) (Z0 : n0 ≤ h0.size) (E0 : Exa Z h0 r0 "java/lang/String") (Fc : Fld Z h0 r0 "java/lang/String" "coder" "B" (.int (0 : Int32))) (Fv : Fld Z h0 r0 "java/lang/String" "value" "[B" (.ref ta)) (V0 : Arv Z h0 ta kk .byte nn vs (.int (0 : Int32))) (O0 : Old Z n0 h0) (hlo : ¬ (p1 < (0 : Int32))) (hhi : p1 < nn) (g0 : vs.getD (p1).toNatClampNeg (.int (0 : Int32)) = .int x) (hres : nar .char (fchL x) = r) (SS : Sts Z cst fv) :
  MetFree l (⟨"java/lang/String", "charAt", "(I)C"⟩ : MethodName) (head1 (Jvm.Cond.code (⟨"java/lang/String", "charAt", "(I)C"⟩ : MethodName) jdk_42_method_56_code 2 (some .char) :: ws) ({ frames := 3, cells := 0, slots := 0, locals := 40 } : Room)) (fun a U => a = #[(.ref r0), (.int p1)] ∧ Z.Warmed39 U.vm ∧ U.heap = h0) (fun _ _ _ _ _ => True) (fun _ U o U' => ∃ v L, o = .returned v ∧ QChL Z r0 p1 ta kk nn vs x r cst fv h0 n0 v U'.heap L ∧ FrameEnd U o U' L ({ frames := 3, cells := 0, slots := 0, locals := 40 } : Room).cells ({ frames := 3, cells := 0, slots := 0, locals := 40 } : Room).slots) := by
 refine MetFree.of_bodySF (plainFor_of_name pnc_java_lang_String) hisR ?_
 intro p e s m args below meth c s₁ Bd hml0 hP hK
 obtain ⟨rfl, hZ, hh⟩ := hP
 have hx := Bd.exec
 have hby := Bd.bytes
 have hml : c.maxLocals = 2 := hml0
 have hown : s.vm.findClass "java/lang/String" = some m.cls := findClass_of_methodNamed Bd.named
 have hnm := (name_of_methodNamed Bd.named Bd.method).1
 have X0 : Stand p l e ({ frames := 3, cells := 0, slots := 0, locals := 40 } : Room) s m #[(.ref r0), (.int p1)] below meth c s₁ [] 0 0 := Stand.of_body Bd
 have e0 : s₁.heap = h0 := by rw [← hh, Bd.state]; rfl
 have N0 := Fr.nil n0
 have kp0 : Keep h0 h0 [] := Keep.refl _ _
 have G0 : ∀ t, Steps p.tables e below (s₁.setTop (mkF m 0 #[rv r0, iv p1] [])) t → Steps p.tables e below (s₁.setTop (entryFrame m #[(.ref r0), (.int p1)] 2)) t := fun t k => castTop (ef_rmChL m r0 p1) k
 obtain ⟨cq1, kq1, q1a, q1b, q1c⟩ := isOf hZ e0 E0
 obtain ⟨_, _, ⟨T1, L1, k1, n1⟩, -, X1, ⟨Lc1, hQ1, l1, y1, z1⟩, st1⟩ := X0.virtualBack hx (y := (⟨"java/lang/String", "isLatin1", "()Z"⟩ : MethodName)) (z := (⟨"java/lang/String", "isLatin1", "()Z"⟩ : MethodName)) hown (mvT hZ (hq hw 186 rfl)) (mvT hZ (hq hw 187 rfl)) (notFace_of_selects (args := #[]) (mvT hZ (hq hw 189 rfl))) (mvT hZ (hq hw 189 rfl)) (mvT hZ (hq hw 188 rfl)) (by decide) (backOf (W := 0) (rm35 l Z a0 hw [] r0 (0 : Int32) cst fv h0 n0 Z0 Fc O0  SS) hZ (hq hw 190 rfl) (hq hw 3 rfl) (by decide) (by decide)) q1a q1c (g := (mkF m 1 #[rv r0, iv p1] [(.ref r0)])) rfl (by rw [hml]; rfl) (Steps.refl _) (argsL := []) (rest := []) (lenOf pd_3 rfl) rfl (by show 2 * 0 + _ ≤ _; exact Nat.le_of_eq rfl) (hb hby d34_1) (fun _ _ => ⟨rfl, e0, (by decide : 0 + 0 ≤ _), (by decide : 0 + 0 ≤ _)⟩)
 dsimp only [Pt.U, Pt.locs, Pt.cells, Pt.slots] at X1 l1 y1 z1 st1 hQ1
 subst l1 y1 z1
 obtain ⟨rfl, N1q, eh1⟩ := hQ1
 have N1 := Fr.app N0 N1q
 have G2 : ∀ t, Steps p.tables e below (T1.setTop (mkF m 4 #[rv r0, iv p1] [(.int (1 : Int32))])) t → Steps p.tables e below (s₁.setTop (entryFrame m #[(.ref r0), (.int p1)] 2)) t := by
  intro t kt
  refine G0 _ ?_
  refine XS.aloadN X0.here hx rfl (hb hby d34_0) rfl rfl ?_
  refine st1.trans ?_
  exact kt
 obtain ⟨T3, X3, e3, st3⟩ := getF X1 hx hZ hown (host := "") (Or.inl (hq hw 28 rfl)) Via.refl eh1 Fv (g := (mkF m 8 #[rv r0, iv p1] [(.ref r0)])) rfl rfl (hb hby d34_8)
 obtain ⟨_, _, ⟨T4, L4, k4, n4⟩, -, X4, ⟨Lc4, hQ4, l4, y4, z4⟩, st4⟩ := Jvm.LawKit.callS X3 hx (y := (⟨"java/lang/StringLatin1", "charAt", "([BI)C"⟩ : MethodName)) hown (mvT hZ (hq hw 191 rfl)) (mvT hZ (hq hw 192 rfl)) (mvT hZ (hq hw 193 rfl)) (mvT hZ (hq hw 194 rfl)) (by decide) (backOf (W := 0) (rm36 l Z a0 hw [] ta p1 kk nn vs x cst fv h0 n0 Z0 V0 O0 hlo hhi g0 SS) hZ (hq hw 194 rfl) (hq hw 193 rfl) (by decide) (by decide)) (g := (mkF m 12 #[rv r0, iv p1] [(.int p1), (.ref ta)])) rfl (by rw [hml]; rfl) (argsL := [(.ref ta), (.int p1)]) (rest := []) (lenOf pd_4 rfl) rfl (by show 2 * 0 + _ ≤ _; exact Nat.le_of_eq rfl) (hb hby d34_12) (fun _ _ => ⟨rfl, e3, (by decide : 0 + 0 ≤ _), (by decide : 0 + 0 ≤ _)⟩)
 dsimp only [Pt.U, Pt.locs, Pt.cells, Pt.slots] at X4 l4 y4 z4 st4 hQ4
 subst l4 y4 z4
 obtain ⟨rfl, N4q, eh4⟩ := hQ4
 have N4 := Fr.app N1 N4q
 obtain ⟨fs, hr, hrun, hended, hW, hsame⟩ := X4.leave (v := some (.int (nar .char (fchL x)))) (fun h => by rw [Bd.returns] at h; cases h)
 refine ⟨_, _, G2 _ ?_, hrun, hended, _, _, rfl, ?_, ⟨_, rfl⟩, hW, hsame.mono (by decide) (by decide)⟩
 ·skip
  refine XS.ifNo X1.here hx rfl (hb hby d34_4) rfl ((if0 _ _).trans (feq (by decide)).1) ?_
  refine XS.aloadN X1.here hx rfl (hb hby d34_7) rfl rfl ?_
  refine st3 _ ?_
  refine XS.iloadN X3.here hx rfl (hb hby d34_11) rfl ?_
  refine st4 _ ?_
  exact retN X4 hx (t := .char) Bd.returns (by simp) (hb hby d34_15) hr
 ·show QChL Z r0 p1 ta kk nn vs x r cst fv h0 n0 _ T4.heap _
  rw [eh4]
  exact ⟨by rw [hres], N4, rfl⟩
theorem own_lat (k : Int32) (h : 0 ≤ k.toInt ∧ k.toInt ≤ 65535) (hl : ¬ ((255 : Int32) < k)) : nar .char (fchL (nar .byte (k.toInt8.toInt32))) = k := by
  have e : (255 : Int32).toInt = 255 := by decide
  rw [Int32.lt_iff_toInt_lt, e] at hl
  have b0 := c_i2b k
  have n0 : nar .byte (k.toInt8.toInt32) = k.toInt8.toInt32 := by show (k.toInt8.toInt32).toInt8.toInt32 = _; simp
  have p8 : ((2 ^ 8 : Nat) : Int) = 256 := by decide
  rw [n0, fchL]
  generalize k.toInt8.toInt32 = u at b0 ⊢
  have m0 := c_mask u 255 8 (by decide) (by decide)
  rw [p8] at m0
  generalize u &&& (255 : Int32) = s at m0 ⊢
  have c1 := c_i2c s
  generalize s.toUInt32.toUInt16.toUInt32.toInt32 = z at c1 ⊢
  have hz : z = k := Int32.toInt_inj.mp (by omega)
  rw [hz, own_narc k h, own_narc k h]

theorem own_same {Z : State} {a0 : Array Value} {y : MethodName} (w : (Cond.instanceMethod y).before a0 Z = true) (nf : NotFace Z y) (hy : y.cls ≠ "java/lang/invoke/MethodHandle" ∧ y.cls ≠ "java/lang/invoke/VarHandle") : (Cond.sameMethod y.cls y.cls y.name y.desc).before a0 Z = true := by
  obtain ⟨mk, meth, hn, hm, hs, hab⟩ := Cond.instanceMethod_spec w
  have hf := State.methodFound?_of_named hn hy
  obtain ⟨k, hk, hi⟩ := nf _ hn
  have hc := findClass_of_methodNamed hn
  simp [Cond.before, Cond.holds, Cond.value, hc, hf, hn, hk, hi]
theorem own_nf {Z : State} {a0 : Array Value} {C : String} {y y' : MethodName} (w : (Cond.selects C y y).before a0 Z = true) (wi : (Cond.instanceMethod y).before a0 Z = true) (hc : y'.cls = y.cls) : NotFace Z y' := fun r0 h0 => by
  obtain ⟨mk, meth, hn, hm, hs, hab⟩ := Cond.instanceMethod_spec wi
  obtain ⟨k, hk, hi⟩ := notFace_of_selects w _ hn
  have a := findClass_of_methodNamed hn
  have b := findClass_of_methodNamed h0
  rw [hc] at b
  have e : r0.cls = mk.cls := Option.some.inj (b.symm.trans a)
  exact ⟨k, by rw [e]; exact hk, hi⟩
theorem own_decl {s : State} {args : Array Value} {y : MethodName} {bytes : ByteArray} {maxL : Nat} {ret : Option FieldType} (w : (Cond.instanceMethod y).before args s = true) (hc : (Cond.code y bytes maxL ret).before args s = true) : (Cond.declares y).before args s = true := by
  obtain ⟨mk, meth, hn, hm, hs, hab⟩ := Cond.instanceMethod_spec w
  obtain ⟨m2, cM, q1, -, -, -, -, -, -, hsig⟩ := Cond.code_spec hn hc
  cases hm.symm.trans q1
  simp [Cond.before, Cond.holds, Cond.value, hn, hm, hs, hsig]
def own_cp (vd ws : List Value) (d m : Int32) : List Value := vd.take d.toNatClampNeg ++ ((List.range m.toNatClampNeg).map fun i => ws.getD ((0 : Int32).toNatClampNeg + i) (.int (0 : Int32))) ++ vd.drop (d.toNatClampNeg + m.toNatClampNeg)
def own_ok (d m zs zd : Int32) (l : Nat) : Prop := ¬ (d < 0) ∧ ¬ (m < 0) ∧ (0 : Int32).toNatClampNeg + m.toNatClampNeg ≤ zs.toNatClampNeg ∧ d.toNatClampNeg + m.toNatClampNeg ≤ zd.toNatClampNeg ∧ d.toNatClampNeg + m.toNatClampNeg ≤ l
theorem own_mkok {d m zs zd : Int32} {l : Nat} (h1 : ¬ (d < 0)) (h2 : ¬ (m < 0)) (h3 : (0 : Int32).toNatClampNeg + m.toNatClampNeg ≤ zs.toNatClampNeg) (h4 : d.toNatClampNeg + m.toNatClampNeg ≤ zd.toNatClampNeg) (h5 : d.toNatClampNeg + m.toNatClampNeg ≤ l) : own_ok d m zs zd l := ⟨h1, h2, h3, h4, h5⟩
theorem own_sh0 (m : Int32) : m >>> ((0 : Int32) &&& 31) = m := by
  have a0 := c_ishr m 0 0 (by decide)
  have p0 : ((2 ^ 0 : Nat) : Int) = 1 := by decide
  rw [p0] at a0
  exact Int32.toInt_inj.mp (by omega)

def own_EL : List (String × Nat) := [("java/lang/String", 7), ("com/example/fides/fides/RecordId", 44)]
theorem own_sub : ∀ q ∈ own_EL, q ∈ consts_1 := by decide +kernel
theorem own_ew {Z : State} {a0 : Array Value} (hw : ∀ d ∈ tables_1, d.before a0 Z = true) : EW Z a0 own_EL := EW.cons (text := "") (hq hw 30 rfl) (by decide) (EW.cons (text := "/") (hq hw 130 rfl) (by decide) EW.nil)
theorem own_safe_null {Z : State} {EL : List (String × Nat)} {vm : Vm} {h : Heap} {x : Addr} {a0 : Array Value} (hal : Z.vm.Alike vm) (E : Exa Z h x "java/lang/String") (wi : (Jvm.Cond.instantiable "java/lang/String" 4).before a0 Z = true) (F : Fld Z h x "java/lang/String" "value" "[B" .null) : Safe Z EL vm h x := fun B => by
  obtain ⟨p, hp, u, a, hb, q, hq, S, hy⟩ := B
  obtain ⟨cS, ⟨⟨s1, s2, s3, ⟨cv, kv, iv, s4, s4'⟩, -, s6, s7, s8, s9, s10, s11, s12, -⟩, hfS, hcS⟩, -⟩ := S
  rcases hy with rfl | rfl
  · obtain ⟨cell, cf, k, i, f, h1, h2, h3, h4, h5, h6, h7⟩ := F
    obtain ⟨kv', z4⟩ := ff_back (U := Wst Z vm h) hal s4
    cases h2.symm.trans z4
    have s1' : h[q.sa]? = some q.sC := s1
    cases h1.symm.trans s1'
    cases h7.symm.trans s8
  · have s10' : h[q.sd]? = some q.SA := s10
    obtain ⟨cell, k, e1, e2, e3, -⟩ := E
    cases e1.symm.trans s10'
    obtain ⟨c2, k2, i1, i2, i3, -⟩ := Cond.instantiable_spec wi
    cases e2.symm.trans i1
    obtain ⟨-, k3, j1, comp, j2⟩ := s11
    obtain ⟨k', r1, r2⟩ := hal.2.2 _ _ i2
    have j1' : vm.classes[q.SA.cls]? = some k3 := j1
    cases r1.symm.trans j1'
    rw [r2] at j2
    rw [show k2.kind = _ from i3] at j2
    cases j2

theorem d5_0 : decode jdk_52_method_21_code 0 = .ok (.iconst 0, 1) := by decide +kernel
theorem d5_1 : decode jdk_52_method_21_code 1 = .ok (.istore 5, 2) := by decide +kernel
theorem d5_3 : decode jdk_52_method_21_code 3 = .ok (.iload 5, 2) := by decide +kernel
theorem d5_5 : decode jdk_52_method_21_code 5 = .ok (.iload 4, 2) := by decide +kernel
theorem d5_7 : decode jdk_52_method_21_code 7 = .ok (.if_icmp .ge 37, 3) := by decide +kernel
theorem d5_10 : decode jdk_52_method_21_code 10 = .ok (.aload_n 0, 1) := by decide +kernel
theorem d5_11 : decode jdk_52_method_21_code 11 = .ok (.iload_n 1, 1) := by decide +kernel
theorem d5_12 : decode jdk_52_method_21_code 12 = .ok (.caload, 1) := by decide +kernel
theorem d5_13 : decode jdk_52_method_21_code 13 = .ok (.istore 6, 2) := by decide +kernel
theorem d5_15 : decode jdk_52_method_21_code 15 = .ok (.iload 6, 2) := by decide +kernel
theorem d5_17 : decode jdk_52_method_21_code 17 = .ok (.sipush 255, 3) := by decide +kernel
theorem d5_20 : decode jdk_52_method_21_code 20 = .ok (.if_icmp .le 6, 3) := by decide +kernel
theorem d5_26 : decode jdk_52_method_21_code 26 = .ok (.aload_n 2, 1) := by decide +kernel
theorem d5_27 : decode jdk_52_method_21_code 27 = .ok (.iload_n 3, 1) := by decide +kernel
theorem d5_28 : decode jdk_52_method_21_code 28 = .ok (.iload 6, 2) := by decide +kernel
theorem d5_30 : decode jdk_52_method_21_code 30 = .ok (.i2b, 1) := by decide +kernel
theorem d5_31 : decode jdk_52_method_21_code 31 = .ok (.bastore, 1) := by decide +kernel
theorem d5_32 : decode jdk_52_method_21_code 32 = .ok (.iinc 1 1, 3) := by decide +kernel
theorem d5_35 : decode jdk_52_method_21_code 35 = .ok (.iinc 3 1, 3) := by decide +kernel
theorem d5_38 : decode jdk_52_method_21_code 38 = .ok (.iinc 5 1, 3) := by decide +kernel
theorem d5_41 : decode jdk_52_method_21_code 41 = .ok (.goto (-38), 3) := by decide +kernel
theorem d5_44 : decode jdk_52_method_21_code 44 = .ok (.iload 4, 2) := by decide +kernel
theorem d5_46 : decode jdk_52_method_21_code 46 = .ok (.ireturn, 1) := by decide +kernel
def QC5_1 (Z : State) (r0 : Addr) (r2 : Addr) (c0 : Int32) (ks kd : ClassId) (h0 : Heap) (n0 : Nat) (v : Option Value) (h : Heap) (L : List Loc) : Prop := (v = some (.int (1 : Int32)) ∧ Fr n0 L ∧ Keep h0 h [r2] ∧ ¬ ((255 : Int32) < c0) ∧ Arv Z h r2 kd .byte (1 : Int32) [(.int (nar .byte (c0.toInt8.toInt32)))] (.int (0 : Int32)))
theorem ef_rmC5_1 (m : MethodId) (x0 : Addr) (x1 : Int32) (x2 : Addr) (x3 : Int32) (x4 : Int32) : entryFrame m #[(.ref x0), (.int x1), (.ref x2), (.int x3), (.int x4)] 7 = mkF m 0 #[.val (.ref x0), .val (.int x1), .val (.ref x2), .val (.int x3), .val (.int x4), .unset, .unset] [] := by first | (simp [entryFrame, mkF, argsToLocals, Value.category]; done) | rfl
theorem pnc_java_lang_StringUTF16 : plainName "java/lang/StringUTF16" = true := by first | (simp [plainName, overriddenIn]; done) | decide +kernel
set_option maxRecDepth 65536 in
set_option maxHeartbeats 40000000 in
theorem rmC5_1 (l : Launch) (Z : State) (a0 : Array Value) (hw : ∀ d ∈ tables_1, d.before a0 Z = true) (ws : List Jvm.Cond) (r0 : Addr) (r2 : Addr) (c0 : Int32) (ks kd : ClassId) (h0 : Heap) (n0 : Nat) (Z0 : n0 ≤ h0.size) (Vs : Arv Z h0 r0 ks .char (1 : Int32) [(.int c0)] (.int (0 : Int32))) (Vd : Arv Z h0 r2 kd .byte (1 : Int32) [(.int (0 : Int32))] (.int (0 : Int32))) (hne : r0 ≠ r2) (g_r2 : n0 ≤ r2) (hp0 : ¬ ((255 : Int32) < c0)) :
  MetFree l (⟨"java/lang/StringUTF16", "compress", "([CI[BII)I"⟩ : MethodName) (head1 (Jvm.Cond.code (⟨"java/lang/StringUTF16", "compress", "([CI[BII)I"⟩ : MethodName) jdk_52_method_21_code 7 (some .int) :: ws) ({ frames := 0, cells := 0, slots := 0, locals := 0 } : Room)) (fun a U => a = #[(.ref r0), (.int (0 : Int32)), (.ref r2), (.int (0 : Int32)), (.int (1 : Int32))] ∧ Z.Warmed39 U.vm ∧ U.heap = h0) (fun _ _ _ _ _ => True) (fun _ U o U' => ∃ v L, o = .returned v ∧ QC5_1 Z r0 r2 c0 ks kd h0 n0 v U'.heap L ∧ FrameEnd U o U' L ({ frames := 0, cells := 0, slots := 0, locals := 0 } : Room).cells ({ frames := 0, cells := 0, slots := 0, locals := 0 } : Room).slots) := by
 refine MetFree.of_bodySF (plainFor_of_name pnc_java_lang_StringUTF16) hisR ?_
 intro p e s m args below meth c s₁ Bd hml0 hP hK
 obtain ⟨rfl, hZ, hh⟩ := hP
 have hx := Bd.exec
 have hby := Bd.bytes
 have hml : c.maxLocals = 7 := hml0
 have hown : s.vm.findClass "java/lang/StringUTF16" = some m.cls := findClass_of_methodNamed Bd.named
 have hnm := (name_of_methodNamed Bd.named Bd.method).1
 have X0 : Stand p l e ({ frames := 0, cells := 0, slots := 0, locals := 0 } : Room) s m #[(.ref r0), (.int (0 : Int32)), (.ref r2), (.int (0 : Int32)), (.int (1 : Int32))] below meth c s₁ [] 0 0 := Stand.of_body Bd
 have e0 : s₁.heap = h0 := by rw [← hh, Bd.state]; rfl
 have N0 := Fr.nil n0
 have kp0 : Keep h0 h0 [r2] := Keep.refl _ _
 have G0 : ∀ t, Steps p.tables e below (s₁.setTop (mkF m 0 #[rv r0, iv 0, rv r2, iv 0, iv 1, .unset, .unset] [])) t → Steps p.tables e below (s₁.setTop (entryFrame m #[(.ref r0), (.int (0 : Int32)), (.ref r2), (.int (0 : Int32)), (.int (1 : Int32))] 7)) t := fun t k => castTop (ef_rmC5_1 m r0 (0 : Int32) r2 (0 : Int32) (1 : Int32)) k
 have G1 : ∀ t, Steps p.tables e below (s₁.setTop (mkF m 7 #[rv r0, iv 0, rv r2, iv 0, iv 1, iv 0, .unset] [(.int (1 : Int32)), (.int (0 : Int32))])) t → Steps p.tables e below (s₁.setTop (entryFrame m #[(.ref r0), (.int (0 : Int32)), (.ref r2), (.int (0 : Int32)), (.int (1 : Int32))] 7)) t := by
  intro t kt
  refine G0 _ ?_
  refine XS.iconst X0.here hx rfl (hb hby d5_0) ?_
  refine XS.istore X0.here hx rfl (hb hby d5_1) rfl (l' := #[rv r0, iv 0, rv r2, iv 0, iv 1, iv 0, .unset]) rfl ?_
  refine XS.iload X0.here hx rfl (hb hby d5_3) rfl ?_
  refine XS.iload X0.here hx rfl (hb hby d5_5) rfl ?_
  exact kt
 obtain ⟨cl2, Ar2, q2, S2, M2, H2, G2⟩ := id Vs
 have hin2 : ¬ ((0 : Int32) < 0 ∨ cl2.slots.size ≤ ((0 : Int32)).toNatClampNeg) := inb_of S2 ⟨by decide, by decide⟩
 have hat2 : cl2.slots[((0 : Int32)).toNatClampNeg]? = some (.int c0) := H2.at hin2 rfl
 have G3 : ∀ t, Steps p.tables e below (s₁.setTop (mkF m 20 #[rv r0, iv 0, rv r2, iv 0, iv 1, iv 0, iv c0] [(.int (255 : Int32)), (.int c0)])) t → Steps p.tables e below (s₁.setTop (entryFrame m #[(.ref r0), (.int (0 : Int32)), (.ref r2), (.int (0 : Int32)), (.int (1 : Int32))] 7)) t := by
  intro t kt
  refine G1 _ ?_
  refine XS.icmpNo X0.here hx rfl (hb hby d5_7) rfl (tlt (by decide)).2.1 ?_
  refine XS.aloadN X0.here hx rfl (hb hby d5_10) rfl rfl ?_
  refine XS.iloadN X0.here hx rfl (hb hby d5_11) rfl ?_
  refine X0.caload hx (j := (0 : Int32)) (v := (.int c0)) (by rw [e0]; exact Ar2.1) (State.isArrayOf_alike hZ.alike Ar2.2.1) Ar2.2.2 hin2 hat2 (g := (mkF m 12 #[rv r0, iv 0, rv r2, iv 0, iv 1, iv 0, .unset] [(.int (0 : Int32)), (.ref r0)])) rfl rfl (hb hby d5_12) _ ?_
  refine XS.istore X0.here hx rfl (hb hby d5_13) rfl (l' := #[rv r0, iv 0, rv r2, iv 0, iv 1, iv 0, iv c0]) rfl ?_
  refine XS.iload X0.here hx rfl (hb hby d5_15) rfl ?_
  refine XS.sipush X0.here hx rfl (hb hby d5_17) ?_
  exact kt
 have hc20_4 : ¬ ((255 : Int32) < c0) := hp0
 obtain ⟨cl5, Ar5, q5, S5, M5, H5, G5⟩ := id Vd
 have hin5 : ¬ ((0 : Int32) < 0 ∨ cl5.slots.size ≤ ((0 : Int32)).toNatClampNeg) := inb_of S5 ⟨by decide, by decide⟩
 obtain ⟨T6, h6, X6, e6, W6, st6⟩ := stB X0 hx hZ e0 Ar5 (j := (0 : Int32)) hin5 (g := (mkF m 31 #[rv r0, iv 0, rv r2, iv 0, iv 1, iv 0, iv c0] [(.int (c0.toInt8.toInt32)), (.int (0 : Int32)), (.ref r2)])) rfl rfl (hb hby d5_31)
 have fa7 := Vs.other W6 hne
 have z8 : n0 ≤ h6.size := Nat.le_trans Z0 (Nat.le_of_eq W6.size.symm)
 have kp9 : Keep h0 h6 [r2] := kp0.wr W6 (Or.inl (List.mem_of_getElem? (i := 0) rfl))
 have fa10 : Arv Z h6 r2 kd .byte (1 : Int32) [(.int (nar .byte (c0.toInt8.toInt32)))] (.int (0 : Int32)) := Arv.set Ar5 q5 S5 M5 H5 G5 (fits_nar_byte _) W6 0 rfl (Nat.le_of_ble_eq_true rfl)
 have N6 := Fr.snoc X6 N0 g_r2
 have G11 : ∀ t, Steps p.tables e below (T6.setTop (mkF m 7 #[rv r0, iv 1, rv r2, iv 1, iv 1, iv 1, iv c0] [(.int (1 : Int32)), (.int (1 : Int32))])) t → Steps p.tables e below (s₁.setTop (entryFrame m #[(.ref r0), (.int (0 : Int32)), (.ref r2), (.int (0 : Int32)), (.int (1 : Int32))] 7)) t := by
  intro t kt
  refine G3 _ ?_
  refine XS.icmpYes X0.here hx rfl (pc0 := 20) (pc' := 26) rfl (hb hby d5_20) rfl (flt hc20_4).2.2.2 (by decide) (by decide) ?_
  refine XS.aloadN X0.here hx rfl (hb hby d5_26) rfl rfl ?_
  refine XS.iloadN X0.here hx rfl (hb hby d5_27) rfl ?_
  refine XS.iload X0.here hx rfl (hb hby d5_28) rfl ?_
  refine XS.i2b X0.here hx rfl (hb hby d5_30) rfl ?_
  refine st6 _ ?_
  refine XS.iinc X6.here hx rfl (hb hby d5_32) rfl (l' := #[rv r0, iv 1, rv r2, iv 0, iv 1, iv 0, iv c0]) rfl ?_
  refine XS.iinc X6.here hx rfl (hb hby d5_35) rfl (l' := #[rv r0, iv 1, rv r2, iv 1, iv 1, iv 0, iv c0]) rfl ?_
  refine XS.iinc X6.here hx rfl (hb hby d5_38) rfl (l' := #[rv r0, iv 1, rv r2, iv 1, iv 1, iv 1, iv c0]) rfl ?_
  refine XS.goto X6.here hx rfl (pc0 := 41) (pc' := 3) rfl (hb hby d5_41) (by decide) (by decide) ?_
  show Steps p.tables e below (T6.setTop (mkF m 3 #[rv r0, iv 1, rv r2, iv 1, iv 1, iv 1, iv c0] [])) _
  refine XS.iload X6.here hx rfl (hb hby d5_3) rfl ?_
  refine XS.iload X6.here hx rfl (hb hby d5_5) rfl ?_
  exact kt
 obtain ⟨fs, hr, hrun, hended, hW, hsame⟩ := X6.leave (v := some (.int (1 : Int32))) (fun h => by rw [Bd.returns] at h; cases h)
 refine ⟨_, _, G11 _ ?_, hrun, hended, _, _, rfl, ?_, ⟨_, rfl⟩, hW, hsame.mono (by decide) (by decide)⟩
 ·skip
  refine XS.icmpYes X6.here hx rfl (pc0 := 7) (pc' := 44) rfl (hb hby d5_7) rfl (flt (by decide)).2.1 (by decide) (by decide) ?_
  refine XS.iload X6.here hx rfl (hb hby d5_44) rfl ?_
  exact retI X6 hx Bd.returns (hb hby d5_46) hr
 ·show QC5_1 Z r0 r2 c0 ks kd h0 n0 _ T6.heap _
  rw [e6]
  exact ⟨rfl, N6, kp9, hp0, fa10⟩
theorem d4_0 : decode jdk_52_method_16_code 0 = .ok (.iload_n 2, 1) := by decide +kernel
theorem d4_1 : decode jdk_52_method_16_code 1 = .ok (.newarray .byte, 2) := by decide +kernel
theorem d4_3 : decode jdk_52_method_16_code 3 = .ok (.astore_n 3, 1) := by decide +kernel
theorem d4_4 : decode jdk_52_method_16_code 4 = .ok (.aload_n 0, 1) := by decide +kernel
theorem d4_5 : decode jdk_52_method_16_code 5 = .ok (.iload_n 1, 1) := by decide +kernel
theorem d4_6 : decode jdk_52_method_16_code 6 = .ok (.aload_n 3, 1) := by decide +kernel
theorem d4_7 : decode jdk_52_method_16_code 7 = .ok (.iconst 0, 1) := by decide +kernel
theorem d4_8 : decode jdk_52_method_16_code 8 = .ok (.iload_n 2, 1) := by decide +kernel
theorem d4_9 : decode jdk_52_method_16_code 9 = .ok (.invokestatic 115, 3) := by decide +kernel
theorem pd_5 : parseMethodDescriptor "([CI[BII)I" = some ⟨[(.array .char), .int, (.array .byte), .int, .int], some .int⟩ := by decide +kernel
theorem d4_12 : decode jdk_52_method_16_code 12 = .ok (.istore 4, 2) := by decide +kernel
theorem d4_14 : decode jdk_52_method_16_code 14 = .ok (.iload 4, 2) := by decide +kernel
theorem d4_16 : decode jdk_52_method_16_code 16 = .ok (.iload_n 2, 1) := by decide +kernel
theorem d4_17 : decode jdk_52_method_16_code 17 = .ok (.if_icmp .eq 40, 3) := by decide +kernel
theorem d4_57 : decode jdk_52_method_16_code 57 = .ok (.aload_n 3, 1) := by decide +kernel
theorem d4_58 : decode jdk_52_method_16_code 58 = .ok (.areturn, 1) := by decide +kernel
def QC3_1 (Z : State) (r0 : Addr) (c0 : Int32) (ks : ClassId) (cst : Int32) (fv : Value) (h0 : Heap) (n0 : Nat) (v : Option Value) (h : Heap) (L : List Loc) : Prop := (∃ (b : Addr) (k : ClassId), v = some (.ref b) ∧ Fr n0 L ∧ Keep h0 h [] ∧ n0 ≤ b ∧ h0.size ≤ b ∧ (¬ ((255 : Int32) < c0)) ∧ Arv Z h b k .byte (1 : Int32) [(.int (nar .byte (c0.toInt8.toInt32)))] (.int (0 : Int32)))
theorem ef_rmC3_1 (m : MethodId) (x0 : Addr) (x1 : Int32) (x2 : Int32) : entryFrame m #[(.ref x0), (.int x1), (.int x2)] 6 = mkF m 0 #[.val (.ref x0), .val (.int x1), .val (.int x2), .unset, .unset, .unset] [] := by first | (simp [entryFrame, mkF, argsToLocals, Value.category]; done) | rfl
set_option maxRecDepth 65536 in
set_option maxHeartbeats 40000000 in
theorem rmC3_1 (l : Launch) (Z : State) (a0 : Array Value) (hw : ∀ d ∈ tables_1, d.before a0 Z = true) (ws : List Jvm.Cond) (r0 : Addr) (c0 : Int32) (ks : ClassId) (cst : Int32) (fv : Value) (h0 : Heap) (n0 : Nat) (Z0 : n0 ≤ h0.size) (Vs : Arv Z h0 r0 ks .char (1 : Int32) [(.int c0)] (.int (0 : Int32))) (O0 : Old Z n0 h0) (hb0 : 0 ≤ c0.toInt ∧ c0.toInt ≤ 65535) (hp0 : ¬ ((255 : Int32) < c0)) (SS : Sts Z cst fv) :
  MetFree l (⟨"java/lang/StringUTF16", "compress", "([CII)[B"⟩ : MethodName) (head1 (Jvm.Cond.code (⟨"java/lang/StringUTF16", "compress", "([CII)[B"⟩ : MethodName) jdk_52_method_16_code 6 (some (.array .byte)) :: ws) ({ frames := 1, cells := 1, slots := 1, locals := 18 } : Room)) (fun a U => a = #[(.ref r0), (.int (0 : Int32)), (.int (1 : Int32))] ∧ Z.Warmed39 U.vm ∧ U.heap = h0) (fun _ _ _ _ _ => True) (fun _ U o U' => ∃ v L, o = .returned v ∧ QC3_1 Z r0 c0 ks cst fv h0 n0 v U'.heap L ∧ FrameEnd U o U' L ({ frames := 1, cells := 1, slots := 1, locals := 18 } : Room).cells ({ frames := 1, cells := 1, slots := 1, locals := 18 } : Room).slots) := by
 refine MetFree.of_bodySF (plainFor_of_name pnc_java_lang_StringUTF16) hisR ?_
 intro p e s m args below meth c s₁ Bd hml0 hP hK
 obtain ⟨rfl, hZ, hh⟩ := hP
 have hx := Bd.exec
 have hby := Bd.bytes
 have hml : c.maxLocals = 6 := hml0
 have hown : s.vm.findClass "java/lang/StringUTF16" = some m.cls := findClass_of_methodNamed Bd.named
 have hnm := (name_of_methodNamed Bd.named Bd.method).1
 have X0 : Stand p l e ({ frames := 1, cells := 1, slots := 1, locals := 18 } : Room) s m #[(.ref r0), (.int (0 : Int32)), (.int (1 : Int32))] below meth c s₁ [] 0 0 := Stand.of_body Bd
 have e0 : s₁.heap = h0 := by rw [← hh, Bd.state]; rfl
 have N0 := Fr.nil n0
 have kp0 : Keep h0 h0 [] := Keep.refl _ _
 have G0 : ∀ t, Steps p.tables e below (s₁.setTop (mkF m 0 #[rv r0, iv 0, iv 1, .unset, .unset, .unset] [])) t → Steps p.tables e below (s₁.setTop (entryFrame m #[(.ref r0), (.int (0 : Int32)), (.int (1 : Int32))] 6)) t := fun t k => castTop (ef_rmC3_1 m r0 (0 : Int32) (1 : Int32)) k
 obtain ⟨T1, h1, k1, X1, e1, E1, A1, st1⟩ := newP X0 hx hZ (hq hw 19 rfl) e0 (g := (mkF m 1 #[rv r0, iv 0, iv 1, .unset, .unset, .unset] [(.int (1 : Int32))])) rfl (hb hby d4_1) rfl (by decide) (cap := 1) (by decide) (by decide) (by decide) (by decide)
 obtain ⟨b1, g1⟩ : ∃ z, z = h0.size := ⟨_, rfl⟩
 rw [← g1] at A1 st1
 have g_b1 : n0 ≤ b1 := Nat.le_trans Z0 (Nat.le_of_eq g1.symm)
 have sz_b1 : h0.size ≤ b1 := Nat.le_trans kp0.1 (Nat.le_of_eq g1.symm)
 have ne_r0_b1 : r0 ≠ b1 := Nat.ne_of_lt (Nat.lt_of_lt_of_le Vs.lt (Nat.le_of_eq g1.symm))
 have fa2 := Vs.ext E1
 have fa3 := O0.ext E1
 have z4 : n0 ≤ h1.size := Nat.le_trans Z0 E1.1
 have kp5 : Keep h0 h1 [] := kp0.ext E1
 have fa6 : Arv Z h1 b1 k1 .byte (1 : Int32) [(.int (0 : Int32))] (.int (0 : Int32)) := (Arv.new A1 (by decide)).pad (pad_rep [] (.int (0 : Int32)) 1)
 obtain ⟨_, _, ⟨T7, L7, k7, n7⟩, -, X7, ⟨Lc7, hQ7, l7, y7, z7⟩, st7⟩ := Jvm.LawKit.callS X1 hx (y := (⟨"java/lang/StringUTF16", "compress", "([CI[BII)I"⟩ : MethodName)) hown (mvT hZ (hq hw 20 rfl)) (mvT hZ (hq hw 21 rfl)) (mvT hZ (hq hw 17 rfl)) (mvT hZ (hq hw 22 rfl)) (by decide) (backOf (W := 0) (rmC5_1 l Z a0 hw [] r0 b1 c0 ks k1 h1 n0 z4 fa2 fa6 ne_r0_b1 g_b1 hp0) hZ (hq hw 22 rfl) (hq hw 17 rfl) (by decide) (by decide)) (g := (mkF m 9 #[rv r0, iv 0, iv 1, rv b1, .unset, .unset] [(.int (1 : Int32)), (.int (0 : Int32)), (.ref b1), (.int (0 : Int32)), (.ref r0)])) rfl (by rw [hml]; rfl) (argsL := [(.ref r0), (.int (0 : Int32)), (.ref b1), (.int (0 : Int32)), (.int (1 : Int32))]) (rest := []) (lenOf pd_5 rfl) rfl (by show 2 * 0 + _ ≤ _; exact Nat.le_of_eq rfl) (hb hby d4_9) (fun _ _ => ⟨rfl, e1, (by decide : 1 + 0 ≤ _), (by decide : 1 + 0 ≤ _)⟩)
 dsimp only [Pt.U, Pt.locs, Pt.cells, Pt.slots] at X7 l7 y7 z7 st7 hQ7
 subst l7 y7 z7
 rcases hQ7 with ⟨rfl, N7q, K7, hq7_0, V7⟩
 ·skip
  have N7 := Fr.app N0 N7q
  have fa8 := fa2.keep K7 (ninS ne_r0_b1 nin0)
  have fa9 := fa3.keep K7 (allS g_b1 all0)
  have z10 : n0 ≤ T7.heap.size := Nat.le_trans z4 K7.1
  have kp11 : Keep h0 T7.heap [] := kp5.trans K7 (allS (Or.inr sz_b1) all0)
  have G12 : ∀ t, Steps p.tables e below (T7.setTop (mkF m 17 #[rv r0, iv 0, iv 1, rv b1, iv 1, .unset] [(.int (1 : Int32)), (.int (1 : Int32))])) t → Steps p.tables e below (s₁.setTop (entryFrame m #[(.ref r0), (.int (0 : Int32)), (.int (1 : Int32))] 6)) t := by
   intro t kt
   refine G0 _ ?_
   refine XS.iloadN X0.here hx rfl (hb hby d4_0) rfl ?_
   refine st1 _ ?_
   refine XS.astoreN X1.here hx rfl (hb hby d4_3) rfl rfl (l' := #[rv r0, iv 0, iv 1, rv b1, .unset, .unset]) rfl ?_
   refine XS.aloadN X1.here hx rfl (hb hby d4_4) rfl rfl ?_
   refine XS.iloadN X1.here hx rfl (hb hby d4_5) rfl ?_
   refine XS.aloadN X1.here hx rfl (hb hby d4_6) rfl rfl ?_
   refine XS.iconst X1.here hx rfl (hb hby d4_7) ?_
   refine XS.iloadN X1.here hx rfl (hb hby d4_8) rfl ?_
   refine st7 _ ?_
   refine XS.istore X7.here hx rfl (hb hby d4_12) rfl (l' := #[rv r0, iv 0, iv 1, rv b1, iv 1, .unset]) rfl ?_
   refine XS.iload X7.here hx rfl (hb hby d4_14) rfl ?_
   refine XS.iloadN X7.here hx rfl (hb hby d4_16) rfl ?_
   exact kt
  obtain ⟨fs, hr, hrun, hended, hW, hsame⟩ := X7.leave (v := some (.ref b1)) (fun h => by rw [Bd.returns] at h; cases h)
  refine ⟨_, _, G12 _ ?_, hrun, hended, _, _, rfl, ?_, ⟨_, rfl⟩, hW, hsame.mono (by decide) (by decide)⟩
  ·skip
   refine XS.icmpYes X7.here hx rfl (pc0 := 17) (pc' := 57) rfl (hb hby d4_17) rfl (teq (by decide)).1 (by decide) (by decide) ?_
   refine XS.aloadN X7.here hx rfl (hb hby d4_57) rfl rfl ?_
   exact retOut X7 hx Bd.returns rfl (Or.inr (Or.inr (Or.inr (Or.inr ⟨rfl, rfl, rfl⟩)))) (hb hby d4_58) hr
  ·show QC3_1 Z r0 c0 ks cst fv h0 n0 _ T7.heap _
   exact ⟨b1, k1, rfl, N7, kp11, g_b1, sz_b1, hq7_0, V7⟩
theorem d6_0 : decode jdk_52_method_15_code 0 = .ok (.iload_n 1, 1) := by decide +kernel
theorem d6_1 : decode jdk_52_method_15_code 1 = .ok (.aload_n 0, 1) := by decide +kernel
theorem d6_2 : decode jdk_52_method_15_code 2 = .ok (.arraylength, 1) := by decide +kernel
theorem d6_3 : decode jdk_52_method_15_code 3 = .ok (.isub, 1) := by decide +kernel
theorem d6_4 : decode jdk_52_method_15_code 4 = .ok (.bipush 31, 2) := by decide +kernel
theorem d6_6 : decode jdk_52_method_15_code 6 = .ok (.iushr, 1) := by decide +kernel
theorem d6_7 : decode jdk_52_method_15_code 7 = .ok (.i2b, 1) := by decide +kernel
theorem d6_8 : decode jdk_52_method_15_code 8 = .ok (.ireturn, 1) := by decide +kernel
def QCF_1_1 (Z : State) (r0 : Addr) (kk : ClassId) (vs : List Value) (h0 : Heap) (n0 : Nat) (v : Option Value) (h : Heap) (L : List Loc) : Prop := v = some (.int (0 : Int32)) ∧ Fr n0 L ∧ h = h0
theorem ef_rmCF_1_1 (m : MethodId) (x0 : Addr) (x1 : Int32) : entryFrame m #[(.ref x0), (.int x1)] 2 = mkF m 0 #[.val (.ref x0), .val (.int x1)] [] := by first | (simp [entryFrame, mkF, argsToLocals, Value.category]; done) | rfl
set_option maxRecDepth 65536 in
set_option maxHeartbeats 40000000 in
theorem rmCF_1_1 (l : Launch) (Z : State) (a0 : Array Value) (hw : ∀ d ∈ tables_1, d.before a0 Z = true) (ws : List Jvm.Cond) (r0 : Addr) (kk : ClassId) (vs : List Value) (h0 : Heap) (n0 : Nat) (Z0 : n0 ≤ h0.size) (V0 : Arv Z h0 r0 kk .byte (1 : Int32) vs (.int (0 : Int32))) :
  MetFree l (⟨"java/lang/StringUTF16", "coderFromArrayLen", "([BI)B"⟩ : MethodName) (head1 (Jvm.Cond.code (⟨"java/lang/StringUTF16", "coderFromArrayLen", "([BI)B"⟩ : MethodName) jdk_52_method_15_code 2 (some .byte) :: ws) ({ frames := 0, cells := 0, slots := 0, locals := 0 } : Room)) (fun a U => a = #[(.ref r0), (.int (1 : Int32))] ∧ Z.Warmed39 U.vm ∧ U.heap = h0) (fun _ _ _ _ _ => True) (fun _ U o U' => ∃ v L, o = .returned v ∧ QCF_1_1 Z r0 kk vs h0 n0 v U'.heap L ∧ FrameEnd U o U' L ({ frames := 0, cells := 0, slots := 0, locals := 0 } : Room).cells ({ frames := 0, cells := 0, slots := 0, locals := 0 } : Room).slots) := by
 refine MetFree.of_bodySF (plainFor_of_name pnc_java_lang_StringUTF16) hisR ?_
 intro p e s m args below meth c s₁ Bd hml0 hP hK
 obtain ⟨rfl, hZ, hh⟩ := hP
 have hx := Bd.exec
 have hby := Bd.bytes
 have hml : c.maxLocals = 2 := hml0
 have hown : s.vm.findClass "java/lang/StringUTF16" = some m.cls := findClass_of_methodNamed Bd.named
 have hnm := (name_of_methodNamed Bd.named Bd.method).1
 have X0 : Stand p l e ({ frames := 0, cells := 0, slots := 0, locals := 0 } : Room) s m #[(.ref r0), (.int (1 : Int32))] below meth c s₁ [] 0 0 := Stand.of_body Bd
 have e0 : s₁.heap = h0 := by rw [← hh, Bd.state]; rfl
 have N0 := Fr.nil n0
 have kp0 : Keep h0 h0 [] := Keep.refl _ _
 have G0 : ∀ t, Steps p.tables e below (s₁.setTop (mkF m 0 #[rv r0, iv 1] [])) t → Steps p.tables e below (s₁.setTop (entryFrame m #[(.ref r0), (.int (1 : Int32))] 2)) t := fun t k => castTop (ef_rmCF_1_1 m r0 (1 : Int32)) k
 obtain ⟨cl1, Ar1, q1, S1, M1, H1, G1⟩ := id V0
 obtain ⟨fs, hr, hrun, hended, hW, hsame⟩ := X0.leave (v := some (.int (0 : Int32))) (fun h => by rw [Bd.returns] at h; cases h)
 refine ⟨_, _, G0 _ ?_, hrun, hended, _, _, rfl, ?_, ⟨_, rfl⟩, hW, hsame.mono (by decide) (by decide)⟩
 ·skip
  refine XS.iloadN X0.here hx rfl (hb hby d6_0) rfl ?_
  refine XS.aloadN X0.here hx rfl (hb hby d6_1) rfl rfl ?_
  refine X0.arraylength hx (by rw [e0]; exact Ar1.1) (State.isArrayOf_alike hZ.alike Ar1.2.1) (g := (mkF m 2 #[rv r0, iv 1] [(.ref r0), (.int (1 : Int32))])) rfl rfl (hb hby d6_2) _ ?_
  rw [len_of S1 M1]
  refine XS.isub X0.here hx rfl (hb hby d6_3) rfl ?_
  refine XS.bipush X0.here hx rfl (hb hby d6_4) ?_
  refine XS.iushr X0.here hx rfl (hb hby d6_6) rfl ?_
  refine XS.i2b X0.here hx rfl (hb hby d6_7) rfl ?_
  exact retN X0 hx (t := .byte) Bd.returns (by simp) (hb hby d6_8) hr
 ·show QCF_1_1 Z r0 kk vs h0 n0 _ s₁.heap _
  rw [e0]
  exact ⟨rfl, N0, rfl⟩
theorem d2_0 : decode jdk_42_method_149_code 0 = .ok (.aload_n 0, 1) := by decide +kernel
theorem d2_1 : decode jdk_42_method_149_code 1 = .ok (.invokespecial 1, 3) := by decide +kernel
theorem d2_4 : decode jdk_42_method_149_code 4 = .ok (.iload_n 3, 1) := by decide +kernel
theorem d2_5 : decode jdk_42_method_149_code 5 = .ok (.ifCond .ne 22, 3) := by decide +kernel
theorem d2_27 : decode jdk_42_method_149_code 27 = .ok (.getstatic 38, 3) := by decide +kernel
theorem d2_30 : decode jdk_42_method_149_code 30 = .ok (.ifCond .eq 28, 3) := by decide +kernel
theorem d2_33 : decode jdk_42_method_149_code 33 = .ok (.aload_n 1, 1) := by decide +kernel
theorem d2_34 : decode jdk_42_method_149_code 34 = .ok (.iload_n 2, 1) := by decide +kernel
theorem d2_35 : decode jdk_42_method_149_code 35 = .ok (.iload_n 3, 1) := by decide +kernel
theorem d2_36 : decode jdk_42_method_149_code 36 = .ok (.invokestatic 177, 3) := by decide +kernel
theorem pd_6 : parseMethodDescriptor "([CII)[B" = some ⟨[(.array .char), .int, .int], some (.array .byte)⟩ := by decide +kernel
theorem d2_39 : decode jdk_42_method_149_code 39 = .ok (.astore 5, 2) := by decide +kernel
theorem d2_41 : decode jdk_42_method_149_code 41 = .ok (.aload_n 0, 1) := by decide +kernel
theorem d2_42 : decode jdk_42_method_149_code 42 = .ok (.aload 5, 2) := by decide +kernel
theorem d2_44 : decode jdk_42_method_149_code 44 = .ok (.iload_n 3, 1) := by decide +kernel
theorem d2_45 : decode jdk_42_method_149_code 45 = .ok (.invokestatic 47, 3) := by decide +kernel
theorem pd_7 : parseMethodDescriptor "([BI)B" = some ⟨[(.array .byte), .int], some .byte⟩ := by decide +kernel
theorem d2_48 : decode jdk_42_method_149_code 48 = .ok (.putfield 15, 3) := by decide +kernel
theorem d2_51 : decode jdk_42_method_149_code 51 = .ok (.aload_n 0, 1) := by decide +kernel
theorem d2_52 : decode jdk_42_method_149_code 52 = .ok (.aload 5, 2) := by decide +kernel
theorem d2_54 : decode jdk_42_method_149_code 54 = .ok (.putfield 9, 3) := by decide +kernel
theorem d2_57 : decode jdk_42_method_149_code 57 = .ok (.return_, 1) := by decide +kernel
def QSE_1 (Z : State) (r0 : Addr) (r1 : Addr) (c0 : Int32) (ks : ClassId) (cst : Int32) (fv : Value) (h0 : Heap) (n0 : Nat) (v : Option Value) (h : Heap) (L : List Loc) : Prop := (v = none ∧ Fr n0 L ∧ Keep h0 h [r0] ∧ Exa Z h r0 "java/lang/String" ∧ (¬ ((255 : Int32) < c0)) ∧ Fld Z h r0 "java/lang/String" "coder" "B" (.int (0 : Int32)) ∧ ∃ (t : Addr) (k : ClassId), Fld Z h r0 "java/lang/String" "value" "[B" (.ref t) ∧ h0.size ≤ t ∧ n0 ≤ t ∧ Arv Z h t k .byte (1 : Int32) [(.int (nar .byte (c0.toInt8.toInt32)))] (.int (0 : Int32)))
theorem ef_rmSE_1 (m : MethodId) (x0 : Addr) (x1 : Addr) (x2 : Int32) (x3 : Int32) : entryFrame m #[(.ref x0), (.ref x1), (.int x2), (.int x3), .null] 6 = mkF m 0 #[.val (.ref x0), .val (.ref x1), .val (.int x2), .val (.int x3), .val .null, .unset] [] := by first | (simp [entryFrame, mkF, argsToLocals, Value.category]; done) | rfl
set_option maxRecDepth 65536 in
set_option maxHeartbeats 40000000 in
theorem rmSE_1 (l : Launch) (Z : State) (a0 : Array Value) (hw : ∀ d ∈ tables_1, d.before a0 Z = true) (ws : List Jvm.Cond) (r0 : Addr) (r1 : Addr) (c0 : Int32) (ks : ClassId) (cst : Int32) (fv : Value) (h0 : Heap) (n0 : Nat) (Z0 : n0 ≤ h0.size) (E0 : Exa Z h0 r0 "java/lang/String") (Fv : Fld Z h0 r0 "java/lang/String" "value" "[B" .null) (Fc : Fld Z h0 r0 "java/lang/String" "coder" "B" (.int (0 : Int32))) (Vs : Arv Z h0 r1 ks .char (1 : Int32) [(.int c0)] (.int (0 : Int32))) (O0 : Old Z n0 h0) (g_r0 : n0 ≤ r0) (hne : r0 ≠ r1) (hb0 : 0 ≤ c0.toInt ∧ c0.toInt ≤ 65535) (hp0 : ¬ ((255 : Int32) < c0)) (SS : Sts Z cst fv) :
  MetFree l (⟨"java/lang/String", "<init>", "([CIILjava/lang/Void;)V"⟩ : MethodName) (head1 (Jvm.Cond.code (⟨"java/lang/String", "<init>", "([CIILjava/lang/Void;)V"⟩ : MethodName) jdk_42_method_149_code 6 none :: ws) ({ frames := 2, cells := 1, slots := 1, locals := 35 } : Room)) (fun a U => a = #[(.ref r0), (.ref r1), (.int (0 : Int32)), (.int (1 : Int32)), .null] ∧ Z.Warmed39 U.vm ∧ U.heap = h0) (fun _ _ _ _ _ => True) (fun _ U o U' => ∃ v L, o = .returned v ∧ QSE_1 Z r0 r1 c0 ks cst fv h0 n0 v U'.heap L ∧ FrameEnd U o U' L ({ frames := 2, cells := 1, slots := 1, locals := 35 } : Room).cells ({ frames := 2, cells := 1, slots := 1, locals := 35 } : Room).slots) := by
 refine MetFree.of_bodySF (plainFor_of_name pnc_java_lang_String) hisR ?_
 intro p e s m args below meth c s₁ Bd hml0 hP hK
 obtain ⟨rfl, hZ, hh⟩ := hP
 have hx := Bd.exec
 have hby := Bd.bytes
 have hml : c.maxLocals = 6 := hml0
 have hown : s.vm.findClass "java/lang/String" = some m.cls := findClass_of_methodNamed Bd.named
 have hnm := (name_of_methodNamed Bd.named Bd.method).1
 have X0 : Stand p l e ({ frames := 2, cells := 1, slots := 1, locals := 35 } : Room) s m #[(.ref r0), (.ref r1), (.int (0 : Int32)), (.int (1 : Int32)), .null] below meth c s₁ [] 0 0 := Stand.of_body Bd
 have e0 : s₁.heap = h0 := by rw [← hh, Bd.state]; rfl
 have N0 := Fr.nil n0
 have kp0 : Keep h0 h0 [r0] := Keep.refl _ _
 have G0 : ∀ t, Steps p.tables e below (s₁.setTop (mkF m 0 #[rv r0, rv r1, iv 0, iv 1, .val .null, .unset] [])) t → Steps p.tables e below (s₁.setTop (entryFrame m #[(.ref r0), (.ref r1), (.int (0 : Int32)), (.int (1 : Int32)), .null] 6)) t := fun t k => castTop (ef_rmSE_1 m r0 r1 (0 : Int32) (1 : Int32)) k
 obtain ⟨T1, X1, e1, st1⟩ := initO X0 hx hZ hown (hq hw 11 rfl) (hq hw 12 rfl) (hq hw 13 rfl) e0 (g := (mkF m 1 #[rv r0, rv r1, iv 0, iv 1, .val .null, .unset] [(.ref r0)])) rfl (by rw [hml]; rfl) rfl (hb hby d2_1) (by decide) (W := 0) (by show 2 * 0 + _ ≤ _; exact Nat.le_of_eq rfl) (by decide)
 have G2 : ∀ t, Steps p.tables e below (T1.setTop (mkF m 5 #[rv r0, rv r1, iv 0, iv 1, .val .null, .unset] [(.int (1 : Int32))])) t → Steps p.tables e below (s₁.setTop (entryFrame m #[(.ref r0), (.ref r1), (.int (0 : Int32)), (.int (1 : Int32)), .null] 6)) t := by
  intro t kt
  refine G0 _ ?_
  refine XS.aloadN X0.here hx rfl (hb hby d2_0) rfl rfl ?_
  refine st1 _ ?_
  refine XS.iloadN X1.here hx rfl (hb hby d2_4) rfl ?_
  exact kt
 obtain ⟨T3, X3, e3, st3⟩ := getS2 X1 hx hZ hown (host := "") (Or.inl (hq hw 14 rfl)) Via.refl e1 (SS.1.ext O0.2) (g := (mkF m 27 #[rv r0, rv r1, iv 0, iv 1, .val .null, .unset] [])) rfl (hb hby d2_27)
 have G4 : ∀ t, Steps p.tables e below (T3.setTop (mkF m 30 #[rv r0, rv r1, iv 0, iv 1, .val .null, .unset] [(.int cst)])) t → Steps p.tables e below (s₁.setTop (entryFrame m #[(.ref r0), (.ref r1), (.int (0 : Int32)), (.int (1 : Int32)), .null] 6)) t := by
  intro t kt
  refine G2 _ ?_
  refine XS.ifYes X1.here hx rfl (pc0 := 5) (pc' := 27) rfl (hb hby d2_5) rfl ((if0 _ _).trans (feq (by decide)).2) (by decide) (by decide) ?_
  refine st3 _ ?_
  exact kt
 have hc30_5 : ¬ (cst = (0 : Int32)) := SS.2.1
 obtain ⟨_, _, ⟨T6, L6, k6, n6⟩, -, X6, ⟨Lc6, hQ6, l6, y6, z6⟩, st6⟩ := Jvm.LawKit.callS X3 hx (y := (⟨"java/lang/StringUTF16", "compress", "([CII)[B"⟩ : MethodName)) hown (mvT hZ (hq hw 15 rfl)) (mvT hZ (hq hw 16 rfl)) (mvT hZ (hq hw 17 rfl)) (mvT hZ (hq hw 18 rfl)) (by decide) (backOf (W := 0) (rmC3_1 l Z a0 hw [] r1 c0 ks cst fv h0 n0 Z0 Vs O0 hb0 hp0 SS) hZ (hq hw 18 rfl) (hq hw 17 rfl) (by decide) (by decide)) (g := (mkF m 36 #[rv r0, rv r1, iv 0, iv 1, .val .null, .unset] [(.int (1 : Int32)), (.int (0 : Int32)), (.ref r1)])) rfl (by rw [hml]; rfl) (argsL := [(.ref r1), (.int (0 : Int32)), (.int (1 : Int32))]) (rest := []) (lenOf pd_6 rfl) rfl (by show 2 * 0 + _ ≤ _; exact Nat.le_of_eq rfl) (hb hby d2_36) (fun _ _ => ⟨rfl, e3, (by decide : 0 + 1 ≤ _), (by decide : 0 + 1 ≤ _)⟩)
 dsimp only [Pt.U, Pt.locs, Pt.cells, Pt.slots] at X6 l6 y6 z6 st6 hQ6
 subst l6 y6 z6
 rcases hQ6 with ⟨b6, kb6, rfl, N6q, K6, g_b6, sz6, hq6, V6⟩
 ·skip
  have N6 := Fr.app N0 N6q
  have szk6 : h0.size ≤ b6 := Nat.le_trans kp0.1 sz6
  have ne_r0_b6 : r0 ≠ b6 := Nat.ne_of_lt (Nat.lt_of_lt_of_le E0.lt sz6)
  have ne_r1_b6 : r1 ≠ b6 := Nat.ne_of_lt (Nat.lt_of_lt_of_le Vs.lt sz6)
  have fa7 := E0.keep K6
  have fa8 := Fv.keep K6 nin0
  have fa9 := Fc.keep K6 nin0
  have fa10 := Vs.keep K6 nin0
  have fa11 := O0.keep K6 all0
  have z12 : n0 ≤ T6.heap.size := Nat.le_trans Z0 K6.1
  have kp13 : Keep h0 T6.heap [r0] := kp0.trans K6 all0
  obtain ⟨_, _, ⟨T14, L14, k14, n14⟩, -, X14, ⟨Lc14, hQ14, l14, y14, z14⟩, st14⟩ := Jvm.LawKit.callS X6 hx (y := (⟨"java/lang/StringUTF16", "coderFromArrayLen", "([BI)B"⟩ : MethodName)) hown (mvT hZ (hq hw 23 rfl)) (mvT hZ (hq hw 24 rfl)) (mvT hZ (hq hw 17 rfl)) (mvT hZ (hq hw 25 rfl)) (by decide) (backOf (W := 1) (rmCF_1_1 l Z a0 hw [] b6 kb6 [(.int (nar .byte (c0.toInt8.toInt32)))] T6.heap n0 z12 V6) hZ (hq hw 25 rfl) (hq hw 17 rfl) (by decide) (by decide)) (g := (mkF m 45 #[rv r0, rv r1, iv 0, iv 1, .val .null, rv b6] [(.int (1 : Int32)), (.ref b6), (.ref r0)])) rfl (by rw [hml]; rfl) (argsL := [(.ref b6), (.int (1 : Int32))]) (rest := [(.ref r0)]) (lenOf pd_7 rfl) rfl (by show 2 * 0 + _ ≤ _; exact Nat.le_of_eq rfl) (hb hby d2_45) (fun _ _ => ⟨rfl, rfl, (by decide : 1 + 0 ≤ _), (by decide : 1 + 0 ≤ _)⟩)
  dsimp only [Pt.U, Pt.locs, Pt.cells, Pt.slots] at X14 l14 y14 z14 st14 hQ14
  subst l14 y14 z14
  obtain ⟨rfl, N14q, eh14⟩ := hQ14
  have N14 := Fr.app N6 N14q
  obtain ⟨T15, h15, X15, e15, W15, st15⟩ := putFN X14 hx hZ hown (hq hw 26 rfl) Via.refl eh14 fa9 fa7 (Or.inr ⟨(hq hw 27 rfl), rfl, hnm⟩) (hq hw 2 rfl) (ty := .byte) (v' := (.int (0 : Int32))) (by decide) rfl (fits_nar_byte (0 : Int32)) (g := (mkF m 48 #[rv r0, rv r1, iv 0, iv 1, .val .null, rv b6] [(.int (0 : Int32)), (.ref r0)])) rfl rfl (hb hby d2_48)
  have fa16 := fa7.wr W15
  have fa17 := fa8.other W15 (Or.inr (slot_ne (Or.inr (hq hw 29 rfl)) (Or.inr (hq hw 27 rfl)) (by decide) (t := (.array .byte)) (t' := .byte) (by decide) (by decide)))
  have fa18 : Fld Z h15 r0 "java/lang/String" "coder" "B" (.int (0 : Int32)) := fa9.same W15
  have fa19 := fa10.other W15 (Ne.symm hne)
  have fa20 := fa11.wr W15 g_r0
  have fa21 := V6.other W15 (Ne.symm ne_r0_b6)
  have z22 : n0 ≤ h15.size := Nat.le_trans z12 (Nat.le_of_eq W15.size.symm)
  have kp23 : Keep h0 h15 [r0] := kp13.wr W15 (Or.inl (List.mem_of_getElem? (i := 0) rfl))
  have N15 := Fr.snoc X15 N14 g_r0
  obtain ⟨T24, h24, X24, e24, W24, st24⟩ := putF X15 hx hZ hown (host := "") (Or.inl (hq hw 28 rfl)) Via.refl e15 fa17 fa16 (Or.inr ⟨(hq hw 29 rfl), rfl, hnm⟩) (hq hw 2 rfl) (ty := (.array .byte)) (by decide) rfl rfl (g := (mkF m 54 #[rv r0, rv r1, iv 0, iv 1, .val .null, rv b6] [(.ref b6), (.ref r0)])) rfl rfl (hb hby d2_54)
  have fa25 := fa16.wr W24
  have fa26 : Fld Z h24 r0 "java/lang/String" "value" "[B" (.ref b6) := fa17.same W24
  have fa27 := fa18.other W24 (Or.inr (slot_ne (Or.inr (hq hw 27 rfl)) (Or.inr (hq hw 29 rfl)) (by decide) (t := .byte) (t' := (.array .byte)) (by decide) (by decide)))
  have fa28 := fa19.other W24 (Ne.symm hne)
  have fa29 := fa20.wr W24 g_r0
  have fa30 := fa21.other W24 (Ne.symm ne_r0_b6)
  have z31 : n0 ≤ h24.size := Nat.le_trans z22 (Nat.le_of_eq W24.size.symm)
  have kp32 : Keep h0 h24 [r0] := kp23.wr W24 (Or.inl (List.mem_of_getElem? (i := 0) rfl))
  have N24 := Fr.snoc X24 N15 g_r0
  obtain ⟨fs, hr, hrun, hended, hW, hsame⟩ := X24.leave (v := none) (fun _ => rfl)
  refine ⟨_, _, G4 _ ?_, hrun, hended, _, _, rfl, ?_, ⟨_, rfl⟩, hW, hsame.mono (by decide) (by decide)⟩
  ·skip
   refine XS.ifNo X3.here hx rfl (hb hby d2_30) rfl ((if0 _ _).trans (feq hc30_5).1) ?_
   refine XS.aloadN X3.here hx rfl (hb hby d2_33) rfl rfl ?_
   refine XS.iloadN X3.here hx rfl (hb hby d2_34) rfl ?_
   refine XS.iloadN X3.here hx rfl (hb hby d2_35) rfl ?_
   refine st6 _ ?_
   refine XS.astore X6.here hx rfl (hb hby d2_39) rfl rfl (l' := #[rv r0, rv r1, iv 0, iv 1, .val .null, rv b6]) rfl ?_
   refine XS.aloadN X6.here hx rfl (hb hby d2_41) rfl rfl ?_
   refine XS.aload X6.here hx rfl (hb hby d2_42) rfl rfl ?_
   refine XS.iloadN X6.here hx rfl (hb hby d2_44) rfl ?_
   refine st14 _ ?_
   refine st15 _ ?_
   refine XS.aloadN X15.here hx rfl (hb hby d2_51) rfl rfl ?_
   refine XS.aload X15.here hx rfl (hb hby d2_52) rfl rfl ?_
   refine st24 _ ?_
   exact X24.returnOut hx Bd.returns (hb hby d2_57) hr
  ·show QSE_1 Z r0 r1 c0 ks cst fv h0 n0 _ T24.heap _
   rw [e24]
   exact ⟨rfl, N24, kp32, fa25, hq6, fa27, b6, kb6, fa26, szk6, g_b6, fa30⟩
theorem d1_0 : decode jdk_42_method_3_code 0 = .ok (.aload_n 0, 1) := by decide +kernel
theorem d1_1 : decode jdk_42_method_3_code 1 = .ok (.aload_n 1, 1) := by decide +kernel
theorem d1_2 : decode jdk_42_method_3_code 2 = .ok (.iconst 0, 1) := by decide +kernel
theorem d1_3 : decode jdk_42_method_3_code 3 = .ok (.aload_n 1, 1) := by decide +kernel
theorem d1_4 : decode jdk_42_method_3_code 4 = .ok (.arraylength, 1) := by decide +kernel
theorem d1_5 : decode jdk_42_method_3_code 5 = .ok (.aconst_null, 1) := by decide +kernel
theorem d1_6 : decode jdk_42_method_3_code 6 = .ok (.invokespecial 27, 3) := by decide +kernel
theorem pd_8 : parseMethodDescriptor "([CIILjava/lang/Void;)V" = some ⟨[(.array .char), .int, .int, (.object "java/lang/Void")], none⟩ := by decide +kernel
theorem d1_9 : decode jdk_42_method_3_code 9 = .ok (.return_, 1) := by decide +kernel
def QSF_1 (Z : State) (r0 : Addr) (r1 : Addr) (c0 : Int32) (ks : ClassId) (cst : Int32) (fv : Value) (h0 : Heap) (n0 : Nat) (v : Option Value) (h : Heap) (L : List Loc) : Prop := (v = none ∧ Fr n0 L ∧ Keep h0 h [r0] ∧ Exa Z h r0 "java/lang/String" ∧ (¬ ((255 : Int32) < c0)) ∧ Fld Z h r0 "java/lang/String" "coder" "B" (.int (0 : Int32)) ∧ ∃ (t : Addr) (k : ClassId), Fld Z h r0 "java/lang/String" "value" "[B" (.ref t) ∧ h0.size ≤ t ∧ n0 ≤ t ∧ Arv Z h t k .byte (1 : Int32) [(.int (nar .byte (c0.toInt8.toInt32)))] (.int (0 : Int32)))
theorem ef_rmSF_1 (m : MethodId) (x0 : Addr) (x1 : Addr) : entryFrame m #[(.ref x0), (.ref x1)] 2 = mkF m 0 #[.val (.ref x0), .val (.ref x1)] [] := by first | (simp [entryFrame, mkF, argsToLocals, Value.category]; done) | rfl
set_option maxRecDepth 65536 in
set_option maxHeartbeats 40000000 in
theorem rmSF_1 (l : Launch) (Z : State) (a0 : Array Value) (hw : ∀ d ∈ tables_1, d.before a0 Z = true) (ws : List Jvm.Cond) (r0 : Addr) (r1 : Addr) (c0 : Int32) (ks : ClassId) (cst : Int32) (fv : Value) (h0 : Heap) (n0 : Nat) (Z0 : n0 ≤ h0.size) (E0 : Exa Z h0 r0 "java/lang/String") (Fv : Fld Z h0 r0 "java/lang/String" "value" "[B" .null) (Fc : Fld Z h0 r0 "java/lang/String" "coder" "B" (.int (0 : Int32))) (Vs : Arv Z h0 r1 ks .char (1 : Int32) [(.int c0)] (.int (0 : Int32))) (O0 : Old Z n0 h0) (g_r0 : n0 ≤ r0) (hne : r0 ≠ r1) (hb0 : 0 ≤ c0.toInt ∧ c0.toInt ≤ 65535) (hp0 : ¬ ((255 : Int32) < c0)) (SS : Sts Z cst fv) :
  MetFree l (⟨"java/lang/String", "<init>", "([C)V"⟩ : MethodName) (head1 (Jvm.Cond.code (⟨"java/lang/String", "<init>", "([C)V"⟩ : MethodName) jdk_42_method_3_code 2 none :: ws) ({ frames := 3, cells := 1, slots := 1, locals := 52 } : Room)) (fun a U => a = #[(.ref r0), (.ref r1)] ∧ Z.Warmed39 U.vm ∧ U.heap = h0) (fun _ _ _ _ _ => True) (fun _ U o U' => ∃ v L, o = .returned v ∧ QSF_1 Z r0 r1 c0 ks cst fv h0 n0 v U'.heap L ∧ FrameEnd U o U' L ({ frames := 3, cells := 1, slots := 1, locals := 52 } : Room).cells ({ frames := 3, cells := 1, slots := 1, locals := 52 } : Room).slots) := by
 refine MetFree.of_bodySF (plainFor_of_name pnc_java_lang_String) hisR ?_
 intro p e s m args below meth c s₁ Bd hml0 hP hK
 obtain ⟨rfl, hZ, hh⟩ := hP
 have hx := Bd.exec
 have hby := Bd.bytes
 have hml : c.maxLocals = 2 := hml0
 have hown : s.vm.findClass "java/lang/String" = some m.cls := findClass_of_methodNamed Bd.named
 have hnm := (name_of_methodNamed Bd.named Bd.method).1
 have X0 : Stand p l e ({ frames := 3, cells := 1, slots := 1, locals := 52 } : Room) s m #[(.ref r0), (.ref r1)] below meth c s₁ [] 0 0 := Stand.of_body Bd
 have e0 : s₁.heap = h0 := by rw [← hh, Bd.state]; rfl
 have N0 := Fr.nil n0
 have kp0 : Keep h0 h0 [r0] := Keep.refl _ _
 have G0 : ∀ t, Steps p.tables e below (s₁.setTop (mkF m 0 #[rv r0, rv r1] [])) t → Steps p.tables e below (s₁.setTop (entryFrame m #[(.ref r0), (.ref r1)] 2)) t := fun t k => castTop (ef_rmSF_1 m r0 r1) k
 obtain ⟨cl1, Ar1, q1, S1, M1, H1, G1⟩ := id Vs
 obtain ⟨_, _, ⟨T2, L2, k2, n2⟩, -, X2, ⟨Lc2, hQ2, l2, y2, z2⟩, st2⟩ := X0.specialBack hx (y := (⟨"java/lang/String", "<init>", "([CIILjava/lang/Void;)V"⟩ : MethodName)) rfl hown (mvT hZ (hq hw 7 rfl)) (mvT hZ (hq hw 8 rfl)) (mvT hZ (hq hw 10 rfl)) (by decide) (backOf (W := 0) (rmSE_1 l Z a0 hw [] r0 r1 c0 ks cst fv h0 n0 Z0 E0 Fv Fc Vs O0 g_r0 hne hb0 hp0 SS) hZ (hq hw 10 rfl) (hq hw 3 rfl) (by decide) (by decide)) (g := (mkF m 6 #[rv r0, rv r1] [.null, (.int (1 : Int32)), (.int (0 : Int32)), (.ref r1), (.ref r0)])) rfl (by rw [hml]; rfl) (Steps.refl _) (a := r0) (argsL := [(.ref r1), (.int (0 : Int32)), (.int (1 : Int32)), .null]) (rest := []) (lenOf pd_8 rfl) rfl (by show 2 * 0 + _ ≤ _; exact Nat.le_of_eq rfl) (hb hby d1_6) (fun _ _ => ⟨rfl, e0, (by decide : 0 + 1 ≤ _), (by decide : 0 + 1 ≤ _)⟩)
 dsimp only [Pt.U, Pt.locs, Pt.cells, Pt.slots] at X2 l2 y2 z2 st2 hQ2
 subst l2 y2 z2
 rcases hQ2 with ⟨rfl, N2q, K2, A2, hq2, Fc2, ta2, kb2, Fv2, sz2, g_ta2, V2⟩
 ·skip
  have N2 := Fr.app N0 N2q
  have szk2 : h0.size ≤ ta2 := Nat.le_trans kp0.1 sz2
  have ne_r0_ta2 : r0 ≠ ta2 := Nat.ne_of_lt (Nat.lt_of_lt_of_le E0.lt sz2)
  have ne_r1_ta2 : r1 ≠ ta2 := Nat.ne_of_lt (Nat.lt_of_lt_of_le Vs.lt sz2)
  have fa3 := E0.keep K2
  have fa4 := Vs.keep K2 (ninS (Ne.symm hne) nin0)
  have fa5 := O0.keep K2 (allS g_r0 all0)
  have z6 : n0 ≤ T2.heap.size := Nat.le_trans Z0 K2.1
  have kp7 : Keep h0 T2.heap [r0] := kp0.trans K2 (allS (Or.inl (List.mem_of_getElem? (i := 0) rfl)) all0)
  obtain ⟨fs, hr, hrun, hended, hW, hsame⟩ := X2.leave (v := none) (fun _ => rfl)
  refine ⟨_, _, G0 _ ?_, hrun, hended, _, _, rfl, ?_, ⟨_, rfl⟩, hW, hsame.mono (by decide) (by decide)⟩
  ·skip
   refine XS.aloadN X0.here hx rfl (hb hby d1_0) rfl rfl ?_
   refine XS.aloadN X0.here hx rfl (hb hby d1_1) rfl rfl ?_
   refine XS.iconst X0.here hx rfl (hb hby d1_2) ?_
   refine XS.aloadN X0.here hx rfl (hb hby d1_3) rfl rfl ?_
   refine X0.arraylength hx (by rw [e0]; exact Ar1.1) (State.isArrayOf_alike hZ.alike Ar1.2.1) (g := (mkF m 4 #[rv r0, rv r1] [(.ref r1), (.int (0 : Int32)), (.ref r1), (.ref r0)])) rfl rfl (hb hby d1_4) _ ?_
   rw [len_of S1 M1]
   refine XS.aconstNull X0.here hx rfl (hb hby d1_5) ?_
   refine st2.trans ?_
   exact X2.returnOut hx Bd.returns (hb hby d1_9) hr
  ·show QSF_1 Z r0 r1 c0 ks cst fv h0 n0 _ T2.heap _
   exact ⟨rfl, N2, kp7, A2, hq2, Fc2, ta2, kb2, Fv2, szk2, g_ta2, V2⟩
def QC5_2 (Z : State) (r0 : Addr) (r2 : Addr) (c0 c1 : Int32) (ks kd : ClassId) (h0 : Heap) (n0 : Nat) (v : Option Value) (h : Heap) (L : List Loc) : Prop := (v = some (.int (2 : Int32)) ∧ Fr n0 L ∧ Keep h0 h [r2] ∧ ¬ ((255 : Int32) < c0) ∧ ¬ ((255 : Int32) < c1) ∧ Arv Z h r2 kd .byte (2 : Int32) [(.int (nar .byte (c0.toInt8.toInt32))), (.int (nar .byte (c1.toInt8.toInt32)))] (.int (0 : Int32)))
theorem ef_rmC5_2 (m : MethodId) (x0 : Addr) (x1 : Int32) (x2 : Addr) (x3 : Int32) (x4 : Int32) : entryFrame m #[(.ref x0), (.int x1), (.ref x2), (.int x3), (.int x4)] 7 = mkF m 0 #[.val (.ref x0), .val (.int x1), .val (.ref x2), .val (.int x3), .val (.int x4), .unset, .unset] [] := by first | (simp [entryFrame, mkF, argsToLocals, Value.category]; done) | rfl
set_option maxRecDepth 65536 in
set_option maxHeartbeats 40000000 in
theorem rmC5_2 (l : Launch) (Z : State) (a0 : Array Value) (hw : ∀ d ∈ tables_1, d.before a0 Z = true) (ws : List Jvm.Cond) (r0 : Addr) (r2 : Addr) (c0 c1 : Int32) (ks kd : ClassId) (h0 : Heap) (n0 : Nat) (Z0 : n0 ≤ h0.size) (Vs : Arv Z h0 r0 ks .char (2 : Int32) [(.int c0), (.int c1)] (.int (0 : Int32))) (Vd : Arv Z h0 r2 kd .byte (2 : Int32) [(.int (0 : Int32)), (.int (0 : Int32))] (.int (0 : Int32))) (hne : r0 ≠ r2) (g_r2 : n0 ≤ r2) (hp0 : ¬ ((255 : Int32) < c0)) (hp1 : ¬ ((255 : Int32) < c1)) :
  MetFree l (⟨"java/lang/StringUTF16", "compress", "([CI[BII)I"⟩ : MethodName) (head1 (Jvm.Cond.code (⟨"java/lang/StringUTF16", "compress", "([CI[BII)I"⟩ : MethodName) jdk_52_method_21_code 7 (some .int) :: ws) ({ frames := 0, cells := 0, slots := 0, locals := 0 } : Room)) (fun a U => a = #[(.ref r0), (.int (0 : Int32)), (.ref r2), (.int (0 : Int32)), (.int (2 : Int32))] ∧ Z.Warmed39 U.vm ∧ U.heap = h0) (fun _ _ _ _ _ => True) (fun _ U o U' => ∃ v L, o = .returned v ∧ QC5_2 Z r0 r2 c0 c1 ks kd h0 n0 v U'.heap L ∧ FrameEnd U o U' L ({ frames := 0, cells := 0, slots := 0, locals := 0 } : Room).cells ({ frames := 0, cells := 0, slots := 0, locals := 0 } : Room).slots) := by
 refine MetFree.of_bodySF (plainFor_of_name pnc_java_lang_StringUTF16) hisR ?_
 intro p e s m args below meth c s₁ Bd hml0 hP hK
 obtain ⟨rfl, hZ, hh⟩ := hP
 have hx := Bd.exec
 have hby := Bd.bytes
 have hml : c.maxLocals = 7 := hml0
 have hown : s.vm.findClass "java/lang/StringUTF16" = some m.cls := findClass_of_methodNamed Bd.named
 have hnm := (name_of_methodNamed Bd.named Bd.method).1
 have X0 : Stand p l e ({ frames := 0, cells := 0, slots := 0, locals := 0 } : Room) s m #[(.ref r0), (.int (0 : Int32)), (.ref r2), (.int (0 : Int32)), (.int (2 : Int32))] below meth c s₁ [] 0 0 := Stand.of_body Bd
 have e0 : s₁.heap = h0 := by rw [← hh, Bd.state]; rfl
 have N0 := Fr.nil n0
 have kp0 : Keep h0 h0 [r2] := Keep.refl _ _
 have G0 : ∀ t, Steps p.tables e below (s₁.setTop (mkF m 0 #[rv r0, iv 0, rv r2, iv 0, iv 2, .unset, .unset] [])) t → Steps p.tables e below (s₁.setTop (entryFrame m #[(.ref r0), (.int (0 : Int32)), (.ref r2), (.int (0 : Int32)), (.int (2 : Int32))] 7)) t := fun t k => castTop (ef_rmC5_2 m r0 (0 : Int32) r2 (0 : Int32) (2 : Int32)) k
 have G1 : ∀ t, Steps p.tables e below (s₁.setTop (mkF m 7 #[rv r0, iv 0, rv r2, iv 0, iv 2, iv 0, .unset] [(.int (2 : Int32)), (.int (0 : Int32))])) t → Steps p.tables e below (s₁.setTop (entryFrame m #[(.ref r0), (.int (0 : Int32)), (.ref r2), (.int (0 : Int32)), (.int (2 : Int32))] 7)) t := by
  intro t kt
  refine G0 _ ?_
  refine XS.iconst X0.here hx rfl (hb hby d5_0) ?_
  refine XS.istore X0.here hx rfl (hb hby d5_1) rfl (l' := #[rv r0, iv 0, rv r2, iv 0, iv 2, iv 0, .unset]) rfl ?_
  refine XS.iload X0.here hx rfl (hb hby d5_3) rfl ?_
  refine XS.iload X0.here hx rfl (hb hby d5_5) rfl ?_
  exact kt
 obtain ⟨cl2, Ar2, q2, S2, M2, H2, G2⟩ := id Vs
 have hin2 : ¬ ((0 : Int32) < 0 ∨ cl2.slots.size ≤ ((0 : Int32)).toNatClampNeg) := inb_of S2 ⟨by decide, by decide⟩
 have hat2 : cl2.slots[((0 : Int32)).toNatClampNeg]? = some (.int c0) := H2.at hin2 rfl
 have G3 : ∀ t, Steps p.tables e below (s₁.setTop (mkF m 20 #[rv r0, iv 0, rv r2, iv 0, iv 2, iv 0, iv c0] [(.int (255 : Int32)), (.int c0)])) t → Steps p.tables e below (s₁.setTop (entryFrame m #[(.ref r0), (.int (0 : Int32)), (.ref r2), (.int (0 : Int32)), (.int (2 : Int32))] 7)) t := by
  intro t kt
  refine G1 _ ?_
  refine XS.icmpNo X0.here hx rfl (hb hby d5_7) rfl (tlt (by decide)).2.1 ?_
  refine XS.aloadN X0.here hx rfl (hb hby d5_10) rfl rfl ?_
  refine XS.iloadN X0.here hx rfl (hb hby d5_11) rfl ?_
  refine X0.caload hx (j := (0 : Int32)) (v := (.int c0)) (by rw [e0]; exact Ar2.1) (State.isArrayOf_alike hZ.alike Ar2.2.1) Ar2.2.2 hin2 hat2 (g := (mkF m 12 #[rv r0, iv 0, rv r2, iv 0, iv 2, iv 0, .unset] [(.int (0 : Int32)), (.ref r0)])) rfl rfl (hb hby d5_12) _ ?_
  refine XS.istore X0.here hx rfl (hb hby d5_13) rfl (l' := #[rv r0, iv 0, rv r2, iv 0, iv 2, iv 0, iv c0]) rfl ?_
  refine XS.iload X0.here hx rfl (hb hby d5_15) rfl ?_
  refine XS.sipush X0.here hx rfl (hb hby d5_17) ?_
  exact kt
 have hc20_4 : ¬ ((255 : Int32) < c0) := hp0
 obtain ⟨cl5, Ar5, q5, S5, M5, H5, G5⟩ := id Vd
 have hin5 : ¬ ((0 : Int32) < 0 ∨ cl5.slots.size ≤ ((0 : Int32)).toNatClampNeg) := inb_of S5 ⟨by decide, by decide⟩
 obtain ⟨T6, h6, X6, e6, W6, st6⟩ := stB X0 hx hZ e0 Ar5 (j := (0 : Int32)) hin5 (g := (mkF m 31 #[rv r0, iv 0, rv r2, iv 0, iv 2, iv 0, iv c0] [(.int (c0.toInt8.toInt32)), (.int (0 : Int32)), (.ref r2)])) rfl rfl (hb hby d5_31)
 have fa7 := Vs.other W6 hne
 have z8 : n0 ≤ h6.size := Nat.le_trans Z0 (Nat.le_of_eq W6.size.symm)
 have kp9 : Keep h0 h6 [r2] := kp0.wr W6 (Or.inl (List.mem_of_getElem? (i := 0) rfl))
 have fa10 : Arv Z h6 r2 kd .byte (2 : Int32) [(.int (nar .byte (c0.toInt8.toInt32))), (.int (0 : Int32))] (.int (0 : Int32)) := Arv.set Ar5 q5 S5 M5 H5 G5 (fits_nar_byte _) W6 0 rfl (Nat.le_of_ble_eq_true rfl)
 have N6 := Fr.snoc X6 N0 g_r2
 have G11 : ∀ t, Steps p.tables e below (T6.setTop (mkF m 7 #[rv r0, iv 1, rv r2, iv 1, iv 2, iv 1, iv c0] [(.int (2 : Int32)), (.int (1 : Int32))])) t → Steps p.tables e below (s₁.setTop (entryFrame m #[(.ref r0), (.int (0 : Int32)), (.ref r2), (.int (0 : Int32)), (.int (2 : Int32))] 7)) t := by
  intro t kt
  refine G3 _ ?_
  refine XS.icmpYes X0.here hx rfl (pc0 := 20) (pc' := 26) rfl (hb hby d5_20) rfl (flt hc20_4).2.2.2 (by decide) (by decide) ?_
  refine XS.aloadN X0.here hx rfl (hb hby d5_26) rfl rfl ?_
  refine XS.iloadN X0.here hx rfl (hb hby d5_27) rfl ?_
  refine XS.iload X0.here hx rfl (hb hby d5_28) rfl ?_
  refine XS.i2b X0.here hx rfl (hb hby d5_30) rfl ?_
  refine st6 _ ?_
  refine XS.iinc X6.here hx rfl (hb hby d5_32) rfl (l' := #[rv r0, iv 1, rv r2, iv 0, iv 2, iv 0, iv c0]) rfl ?_
  refine XS.iinc X6.here hx rfl (hb hby d5_35) rfl (l' := #[rv r0, iv 1, rv r2, iv 1, iv 2, iv 0, iv c0]) rfl ?_
  refine XS.iinc X6.here hx rfl (hb hby d5_38) rfl (l' := #[rv r0, iv 1, rv r2, iv 1, iv 2, iv 1, iv c0]) rfl ?_
  refine XS.goto X6.here hx rfl (pc0 := 41) (pc' := 3) rfl (hb hby d5_41) (by decide) (by decide) ?_
  show Steps p.tables e below (T6.setTop (mkF m 3 #[rv r0, iv 1, rv r2, iv 1, iv 2, iv 1, iv c0] [])) _
  refine XS.iload X6.here hx rfl (hb hby d5_3) rfl ?_
  refine XS.iload X6.here hx rfl (hb hby d5_5) rfl ?_
  exact kt
 obtain ⟨cl12, Ar12, q12, S12, M12, H12, G12⟩ := id fa7
 have hin12 : ¬ ((1 : Int32) < 0 ∨ cl12.slots.size ≤ ((1 : Int32)).toNatClampNeg) := inb_of S12 ⟨by decide, by decide⟩
 have hat12 : cl12.slots[((1 : Int32)).toNatClampNeg]? = some (.int c1) := H12.at hin12 rfl
 have G13 : ∀ t, Steps p.tables e below (T6.setTop (mkF m 20 #[rv r0, iv 1, rv r2, iv 1, iv 2, iv 1, iv c1] [(.int (255 : Int32)), (.int c1)])) t → Steps p.tables e below (s₁.setTop (entryFrame m #[(.ref r0), (.int (0 : Int32)), (.ref r2), (.int (0 : Int32)), (.int (2 : Int32))] 7)) t := by
  intro t kt
  refine G11 _ ?_
  refine XS.icmpNo X6.here hx rfl (hb hby d5_7) rfl (tlt (by decide)).2.1 ?_
  refine XS.aloadN X6.here hx rfl (hb hby d5_10) rfl rfl ?_
  refine XS.iloadN X6.here hx rfl (hb hby d5_11) rfl ?_
  refine X6.caload hx (j := (1 : Int32)) (v := (.int c1)) (by rw [e6]; exact Ar12.1) (State.isArrayOf_alike hZ.alike Ar12.2.1) Ar12.2.2 hin12 hat12 (g := (mkF m 12 #[rv r0, iv 1, rv r2, iv 1, iv 2, iv 1, iv c0] [(.int (1 : Int32)), (.ref r0)])) rfl rfl (hb hby d5_12) _ ?_
  refine XS.istore X6.here hx rfl (hb hby d5_13) rfl (l' := #[rv r0, iv 1, rv r2, iv 1, iv 2, iv 1, iv c1]) rfl ?_
  refine XS.iload X6.here hx rfl (hb hby d5_15) rfl ?_
  refine XS.sipush X6.here hx rfl (hb hby d5_17) ?_
  exact kt
 have hc20_14 : ¬ ((255 : Int32) < c1) := hp1
 obtain ⟨cl15, Ar15, q15, S15, M15, H15, G15⟩ := id fa10
 have hin15 : ¬ ((1 : Int32) < 0 ∨ cl15.slots.size ≤ ((1 : Int32)).toNatClampNeg) := inb_of S15 ⟨by decide, by decide⟩
 obtain ⟨T16, h16, X16, e16, W16, st16⟩ := stB X6 hx hZ e6 Ar15 (j := (1 : Int32)) hin15 (g := (mkF m 31 #[rv r0, iv 1, rv r2, iv 1, iv 2, iv 1, iv c1] [(.int (c1.toInt8.toInt32)), (.int (1 : Int32)), (.ref r2)])) rfl rfl (hb hby d5_31)
 have fa17 := fa7.other W16 hne
 have z18 : n0 ≤ h16.size := Nat.le_trans z8 (Nat.le_of_eq W16.size.symm)
 have kp19 : Keep h0 h16 [r2] := kp9.wr W16 (Or.inl (List.mem_of_getElem? (i := 0) rfl))
 have fa20 : Arv Z h16 r2 kd .byte (2 : Int32) [(.int (nar .byte (c0.toInt8.toInt32))), (.int (nar .byte (c1.toInt8.toInt32)))] (.int (0 : Int32)) := Arv.set Ar15 q15 S15 M15 H15 G15 (fits_nar_byte _) W16 1 rfl (Nat.le_of_ble_eq_true rfl)
 have N16 := Fr.snoc X16 N6 g_r2
 have G21 : ∀ t, Steps p.tables e below (T16.setTop (mkF m 7 #[rv r0, iv 2, rv r2, iv 2, iv 2, iv 2, iv c1] [(.int (2 : Int32)), (.int (2 : Int32))])) t → Steps p.tables e below (s₁.setTop (entryFrame m #[(.ref r0), (.int (0 : Int32)), (.ref r2), (.int (0 : Int32)), (.int (2 : Int32))] 7)) t := by
  intro t kt
  refine G13 _ ?_
  refine XS.icmpYes X6.here hx rfl (pc0 := 20) (pc' := 26) rfl (hb hby d5_20) rfl (flt hc20_14).2.2.2 (by decide) (by decide) ?_
  refine XS.aloadN X6.here hx rfl (hb hby d5_26) rfl rfl ?_
  refine XS.iloadN X6.here hx rfl (hb hby d5_27) rfl ?_
  refine XS.iload X6.here hx rfl (hb hby d5_28) rfl ?_
  refine XS.i2b X6.here hx rfl (hb hby d5_30) rfl ?_
  refine st16 _ ?_
  refine XS.iinc X16.here hx rfl (hb hby d5_32) rfl (l' := #[rv r0, iv 2, rv r2, iv 1, iv 2, iv 1, iv c1]) rfl ?_
  refine XS.iinc X16.here hx rfl (hb hby d5_35) rfl (l' := #[rv r0, iv 2, rv r2, iv 2, iv 2, iv 1, iv c1]) rfl ?_
  refine XS.iinc X16.here hx rfl (hb hby d5_38) rfl (l' := #[rv r0, iv 2, rv r2, iv 2, iv 2, iv 2, iv c1]) rfl ?_
  refine XS.goto X16.here hx rfl (pc0 := 41) (pc' := 3) rfl (hb hby d5_41) (by decide) (by decide) ?_
  refine XS.iload X16.here hx rfl (hb hby d5_3) rfl ?_
  refine XS.iload X16.here hx rfl (hb hby d5_5) rfl ?_
  exact kt
 obtain ⟨fs, hr, hrun, hended, hW, hsame⟩ := X16.leave (v := some (.int (2 : Int32))) (fun h => by rw [Bd.returns] at h; cases h)
 refine ⟨_, _, G21 _ ?_, hrun, hended, _, _, rfl, ?_, ⟨_, rfl⟩, hW, hsame.mono (by decide) (by decide)⟩
 ·skip
  refine XS.icmpYes X16.here hx rfl (pc0 := 7) (pc' := 44) rfl (hb hby d5_7) rfl (flt (by decide)).2.1 (by decide) (by decide) ?_
  refine XS.iload X16.here hx rfl (hb hby d5_44) rfl ?_
  show Steps p.tables e below (T16.setTop (mkF m 46 #[rv r0, iv 2, rv r2, iv 2, iv 2, iv 2, iv c1] [(.int (2 : Int32))])) _
  exact retI X16 hx Bd.returns (hb hby d5_46) hr
 ·show QC5_2 Z r0 r2 c0 c1 ks kd h0 n0 _ T16.heap _
  rw [e16]
  exact ⟨rfl, N16, kp19, hp0, hp1, fa20⟩
def QC3_2 (Z : State) (r0 : Addr) (c0 c1 : Int32) (ks : ClassId) (cst : Int32) (fv : Value) (h0 : Heap) (n0 : Nat) (v : Option Value) (h : Heap) (L : List Loc) : Prop := (∃ (b : Addr) (k : ClassId), v = some (.ref b) ∧ Fr n0 L ∧ Keep h0 h [] ∧ n0 ≤ b ∧ h0.size ≤ b ∧ (¬ ((255 : Int32) < c0) ∧ ¬ ((255 : Int32) < c1)) ∧ Arv Z h b k .byte (2 : Int32) [(.int (nar .byte (c0.toInt8.toInt32))), (.int (nar .byte (c1.toInt8.toInt32)))] (.int (0 : Int32)))
theorem ef_rmC3_2 (m : MethodId) (x0 : Addr) (x1 : Int32) (x2 : Int32) : entryFrame m #[(.ref x0), (.int x1), (.int x2)] 6 = mkF m 0 #[.val (.ref x0), .val (.int x1), .val (.int x2), .unset, .unset, .unset] [] := by first | (simp [entryFrame, mkF, argsToLocals, Value.category]; done) | rfl
set_option maxRecDepth 65536 in
set_option maxHeartbeats 40000000 in
theorem rmC3_2 (l : Launch) (Z : State) (a0 : Array Value) (hw : ∀ d ∈ tables_1, d.before a0 Z = true) (ws : List Jvm.Cond) (r0 : Addr) (c0 c1 : Int32) (ks : ClassId) (cst : Int32) (fv : Value) (h0 : Heap) (n0 : Nat) (Z0 : n0 ≤ h0.size) (Vs : Arv Z h0 r0 ks .char (2 : Int32) [(.int c0), (.int c1)] (.int (0 : Int32))) (O0 : Old Z n0 h0) (hb0 : 0 ≤ c0.toInt ∧ c0.toInt ≤ 65535) (hb1 : 0 ≤ c1.toInt ∧ c1.toInt ≤ 65535) (hp0 : ¬ ((255 : Int32) < c0)) (hp1 : ¬ ((255 : Int32) < c1)) (SS : Sts Z cst fv) :
  MetFree l (⟨"java/lang/StringUTF16", "compress", "([CII)[B"⟩ : MethodName) (head1 (Jvm.Cond.code (⟨"java/lang/StringUTF16", "compress", "([CII)[B"⟩ : MethodName) jdk_52_method_16_code 6 (some (.array .byte)) :: ws) ({ frames := 1, cells := 1, slots := 2, locals := 18 } : Room)) (fun a U => a = #[(.ref r0), (.int (0 : Int32)), (.int (2 : Int32))] ∧ Z.Warmed39 U.vm ∧ U.heap = h0) (fun _ _ _ _ _ => True) (fun _ U o U' => ∃ v L, o = .returned v ∧ QC3_2 Z r0 c0 c1 ks cst fv h0 n0 v U'.heap L ∧ FrameEnd U o U' L ({ frames := 1, cells := 1, slots := 2, locals := 18 } : Room).cells ({ frames := 1, cells := 1, slots := 2, locals := 18 } : Room).slots) := by
 refine MetFree.of_bodySF (plainFor_of_name pnc_java_lang_StringUTF16) hisR ?_
 intro p e s m args below meth c s₁ Bd hml0 hP hK
 obtain ⟨rfl, hZ, hh⟩ := hP
 have hx := Bd.exec
 have hby := Bd.bytes
 have hml : c.maxLocals = 6 := hml0
 have hown : s.vm.findClass "java/lang/StringUTF16" = some m.cls := findClass_of_methodNamed Bd.named
 have hnm := (name_of_methodNamed Bd.named Bd.method).1
 have X0 : Stand p l e ({ frames := 1, cells := 1, slots := 2, locals := 18 } : Room) s m #[(.ref r0), (.int (0 : Int32)), (.int (2 : Int32))] below meth c s₁ [] 0 0 := Stand.of_body Bd
 have e0 : s₁.heap = h0 := by rw [← hh, Bd.state]; rfl
 have N0 := Fr.nil n0
 have kp0 : Keep h0 h0 [] := Keep.refl _ _
 have G0 : ∀ t, Steps p.tables e below (s₁.setTop (mkF m 0 #[rv r0, iv 0, iv 2, .unset, .unset, .unset] [])) t → Steps p.tables e below (s₁.setTop (entryFrame m #[(.ref r0), (.int (0 : Int32)), (.int (2 : Int32))] 6)) t := fun t k => castTop (ef_rmC3_2 m r0 (0 : Int32) (2 : Int32)) k
 obtain ⟨T1, h1, k1, X1, e1, E1, A1, st1⟩ := newP X0 hx hZ (hq hw 19 rfl) e0 (g := (mkF m 1 #[rv r0, iv 0, iv 2, .unset, .unset, .unset] [(.int (2 : Int32))])) rfl (hb hby d4_1) rfl (by decide) (cap := 2) (by decide) (by decide) (by decide) (by decide)
 obtain ⟨b1, g1⟩ : ∃ z, z = h0.size := ⟨_, rfl⟩
 rw [← g1] at A1 st1
 have g_b1 : n0 ≤ b1 := Nat.le_trans Z0 (Nat.le_of_eq g1.symm)
 have sz_b1 : h0.size ≤ b1 := Nat.le_trans kp0.1 (Nat.le_of_eq g1.symm)
 have ne_r0_b1 : r0 ≠ b1 := Nat.ne_of_lt (Nat.lt_of_lt_of_le Vs.lt (Nat.le_of_eq g1.symm))
 have fa2 := Vs.ext E1
 have fa3 := O0.ext E1
 have z4 : n0 ≤ h1.size := Nat.le_trans Z0 E1.1
 have kp5 : Keep h0 h1 [] := kp0.ext E1
 have fa6 : Arv Z h1 b1 k1 .byte (2 : Int32) [(.int (0 : Int32)), (.int (0 : Int32))] (.int (0 : Int32)) := (Arv.new A1 (by decide)).pad (pad_rep [] (.int (0 : Int32)) 2)
 obtain ⟨_, _, ⟨T7, L7, k7, n7⟩, -, X7, ⟨Lc7, hQ7, l7, y7, z7⟩, st7⟩ := Jvm.LawKit.callS X1 hx (y := (⟨"java/lang/StringUTF16", "compress", "([CI[BII)I"⟩ : MethodName)) hown (mvT hZ (hq hw 20 rfl)) (mvT hZ (hq hw 21 rfl)) (mvT hZ (hq hw 17 rfl)) (mvT hZ (hq hw 22 rfl)) (by decide) (backOf (W := 0) (rmC5_2 l Z a0 hw [] r0 b1 c0 c1 ks k1 h1 n0 z4 fa2 fa6 ne_r0_b1 g_b1 hp0 hp1) hZ (hq hw 22 rfl) (hq hw 17 rfl) (by decide) (by decide)) (g := (mkF m 9 #[rv r0, iv 0, iv 2, rv b1, .unset, .unset] [(.int (2 : Int32)), (.int (0 : Int32)), (.ref b1), (.int (0 : Int32)), (.ref r0)])) rfl (by rw [hml]; rfl) (argsL := [(.ref r0), (.int (0 : Int32)), (.ref b1), (.int (0 : Int32)), (.int (2 : Int32))]) (rest := []) (lenOf pd_5 rfl) rfl (by show 2 * 0 + _ ≤ _; exact Nat.le_of_eq rfl) (hb hby d4_9) (fun _ _ => ⟨rfl, e1, (by decide : 1 + 0 ≤ _), (by decide : 2 + 0 ≤ _)⟩)
 dsimp only [Pt.U, Pt.locs, Pt.cells, Pt.slots] at X7 l7 y7 z7 st7 hQ7
 subst l7 y7 z7
 rcases hQ7 with ⟨rfl, N7q, K7, hq7_0, hq7_1, V7⟩
 ·skip
  have N7 := Fr.app N0 N7q
  have fa8 := fa2.keep K7 (ninS ne_r0_b1 nin0)
  have fa9 := fa3.keep K7 (allS g_b1 all0)
  have z10 : n0 ≤ T7.heap.size := Nat.le_trans z4 K7.1
  have kp11 : Keep h0 T7.heap [] := kp5.trans K7 (allS (Or.inr sz_b1) all0)
  have G12 : ∀ t, Steps p.tables e below (T7.setTop (mkF m 17 #[rv r0, iv 0, iv 2, rv b1, iv 2, .unset] [(.int (2 : Int32)), (.int (2 : Int32))])) t → Steps p.tables e below (s₁.setTop (entryFrame m #[(.ref r0), (.int (0 : Int32)), (.int (2 : Int32))] 6)) t := by
   intro t kt
   refine G0 _ ?_
   refine XS.iloadN X0.here hx rfl (hb hby d4_0) rfl ?_
   refine st1 _ ?_
   refine XS.astoreN X1.here hx rfl (hb hby d4_3) rfl rfl (l' := #[rv r0, iv 0, iv 2, rv b1, .unset, .unset]) rfl ?_
   refine XS.aloadN X1.here hx rfl (hb hby d4_4) rfl rfl ?_
   refine XS.iloadN X1.here hx rfl (hb hby d4_5) rfl ?_
   refine XS.aloadN X1.here hx rfl (hb hby d4_6) rfl rfl ?_
   refine XS.iconst X1.here hx rfl (hb hby d4_7) ?_
   refine XS.iloadN X1.here hx rfl (hb hby d4_8) rfl ?_
   refine st7 _ ?_
   refine XS.istore X7.here hx rfl (hb hby d4_12) rfl (l' := #[rv r0, iv 0, iv 2, rv b1, iv 2, .unset]) rfl ?_
   refine XS.iload X7.here hx rfl (hb hby d4_14) rfl ?_
   refine XS.iloadN X7.here hx rfl (hb hby d4_16) rfl ?_
   exact kt
  obtain ⟨fs, hr, hrun, hended, hW, hsame⟩ := X7.leave (v := some (.ref b1)) (fun h => by rw [Bd.returns] at h; cases h)
  refine ⟨_, _, G12 _ ?_, hrun, hended, _, _, rfl, ?_, ⟨_, rfl⟩, hW, hsame.mono (by decide) (by decide)⟩
  ·skip
   refine XS.icmpYes X7.here hx rfl (pc0 := 17) (pc' := 57) rfl (hb hby d4_17) rfl (teq (by decide)).1 (by decide) (by decide) ?_
   refine XS.aloadN X7.here hx rfl (hb hby d4_57) rfl rfl ?_
   exact retOut X7 hx Bd.returns rfl (Or.inr (Or.inr (Or.inr (Or.inr ⟨rfl, rfl, rfl⟩)))) (hb hby d4_58) hr
  ·show QC3_2 Z r0 c0 c1 ks cst fv h0 n0 _ T7.heap _
   exact ⟨b1, k1, rfl, N7, kp11, g_b1, sz_b1, ⟨hq7_0, hq7_1⟩, V7⟩
def QCF_2_2 (Z : State) (r0 : Addr) (kk : ClassId) (vs : List Value) (h0 : Heap) (n0 : Nat) (v : Option Value) (h : Heap) (L : List Loc) : Prop := v = some (.int (0 : Int32)) ∧ Fr n0 L ∧ h = h0
theorem ef_rmCF_2_2 (m : MethodId) (x0 : Addr) (x1 : Int32) : entryFrame m #[(.ref x0), (.int x1)] 2 = mkF m 0 #[.val (.ref x0), .val (.int x1)] [] := by first | (simp [entryFrame, mkF, argsToLocals, Value.category]; done) | rfl
set_option maxRecDepth 65536 in
set_option maxHeartbeats 40000000 in
theorem rmCF_2_2 (l : Launch) (Z : State) (a0 : Array Value) (hw : ∀ d ∈ tables_1, d.before a0 Z = true) (ws : List Jvm.Cond) (r0 : Addr) (kk : ClassId) (vs : List Value) (h0 : Heap) (n0 : Nat) (Z0 : n0 ≤ h0.size) (V0 : Arv Z h0 r0 kk .byte (2 : Int32) vs (.int (0 : Int32))) :
  MetFree l (⟨"java/lang/StringUTF16", "coderFromArrayLen", "([BI)B"⟩ : MethodName) (head1 (Jvm.Cond.code (⟨"java/lang/StringUTF16", "coderFromArrayLen", "([BI)B"⟩ : MethodName) jdk_52_method_15_code 2 (some .byte) :: ws) ({ frames := 0, cells := 0, slots := 0, locals := 0 } : Room)) (fun a U => a = #[(.ref r0), (.int (2 : Int32))] ∧ Z.Warmed39 U.vm ∧ U.heap = h0) (fun _ _ _ _ _ => True) (fun _ U o U' => ∃ v L, o = .returned v ∧ QCF_2_2 Z r0 kk vs h0 n0 v U'.heap L ∧ FrameEnd U o U' L ({ frames := 0, cells := 0, slots := 0, locals := 0 } : Room).cells ({ frames := 0, cells := 0, slots := 0, locals := 0 } : Room).slots) := by
 refine MetFree.of_bodySF (plainFor_of_name pnc_java_lang_StringUTF16) hisR ?_
 intro p e s m args below meth c s₁ Bd hml0 hP hK
 obtain ⟨rfl, hZ, hh⟩ := hP
 have hx := Bd.exec
 have hby := Bd.bytes
 have hml : c.maxLocals = 2 := hml0
 have hown : s.vm.findClass "java/lang/StringUTF16" = some m.cls := findClass_of_methodNamed Bd.named
 have hnm := (name_of_methodNamed Bd.named Bd.method).1
 have X0 : Stand p l e ({ frames := 0, cells := 0, slots := 0, locals := 0 } : Room) s m #[(.ref r0), (.int (2 : Int32))] below meth c s₁ [] 0 0 := Stand.of_body Bd
 have e0 : s₁.heap = h0 := by rw [← hh, Bd.state]; rfl
 have N0 := Fr.nil n0
 have kp0 : Keep h0 h0 [] := Keep.refl _ _
 have G0 : ∀ t, Steps p.tables e below (s₁.setTop (mkF m 0 #[rv r0, iv 2] [])) t → Steps p.tables e below (s₁.setTop (entryFrame m #[(.ref r0), (.int (2 : Int32))] 2)) t := fun t k => castTop (ef_rmCF_2_2 m r0 (2 : Int32)) k
 obtain ⟨cl1, Ar1, q1, S1, M1, H1, G1⟩ := id V0
 obtain ⟨fs, hr, hrun, hended, hW, hsame⟩ := X0.leave (v := some (.int (0 : Int32))) (fun h => by rw [Bd.returns] at h; cases h)
 refine ⟨_, _, G0 _ ?_, hrun, hended, _, _, rfl, ?_, ⟨_, rfl⟩, hW, hsame.mono (by decide) (by decide)⟩
 ·skip
  refine XS.iloadN X0.here hx rfl (hb hby d6_0) rfl ?_
  refine XS.aloadN X0.here hx rfl (hb hby d6_1) rfl rfl ?_
  refine X0.arraylength hx (by rw [e0]; exact Ar1.1) (State.isArrayOf_alike hZ.alike Ar1.2.1) (g := (mkF m 2 #[rv r0, iv 2] [(.ref r0), (.int (2 : Int32))])) rfl rfl (hb hby d6_2) _ ?_
  rw [len_of S1 M1]
  refine XS.isub X0.here hx rfl (hb hby d6_3) rfl ?_
  refine XS.bipush X0.here hx rfl (hb hby d6_4) ?_
  refine XS.iushr X0.here hx rfl (hb hby d6_6) rfl ?_
  refine XS.i2b X0.here hx rfl (hb hby d6_7) rfl ?_
  exact retN X0 hx (t := .byte) Bd.returns (by simp) (hb hby d6_8) hr
 ·show QCF_2_2 Z r0 kk vs h0 n0 _ s₁.heap _
  rw [e0]
  exact ⟨rfl, N0, rfl⟩
def QSE_2 (Z : State) (r0 : Addr) (r1 : Addr) (c0 c1 : Int32) (ks : ClassId) (cst : Int32) (fv : Value) (h0 : Heap) (n0 : Nat) (v : Option Value) (h : Heap) (L : List Loc) : Prop := (v = none ∧ Fr n0 L ∧ Keep h0 h [r0] ∧ Exa Z h r0 "java/lang/String" ∧ (¬ ((255 : Int32) < c0) ∧ ¬ ((255 : Int32) < c1)) ∧ Fld Z h r0 "java/lang/String" "coder" "B" (.int (0 : Int32)) ∧ ∃ (t : Addr) (k : ClassId), Fld Z h r0 "java/lang/String" "value" "[B" (.ref t) ∧ h0.size ≤ t ∧ n0 ≤ t ∧ Arv Z h t k .byte (2 : Int32) [(.int (nar .byte (c0.toInt8.toInt32))), (.int (nar .byte (c1.toInt8.toInt32)))] (.int (0 : Int32)))
theorem ef_rmSE_2 (m : MethodId) (x0 : Addr) (x1 : Addr) (x2 : Int32) (x3 : Int32) : entryFrame m #[(.ref x0), (.ref x1), (.int x2), (.int x3), .null] 6 = mkF m 0 #[.val (.ref x0), .val (.ref x1), .val (.int x2), .val (.int x3), .val .null, .unset] [] := by first | (simp [entryFrame, mkF, argsToLocals, Value.category]; done) | rfl
set_option maxRecDepth 65536 in
set_option maxHeartbeats 40000000 in
theorem rmSE_2 (l : Launch) (Z : State) (a0 : Array Value) (hw : ∀ d ∈ tables_1, d.before a0 Z = true) (ws : List Jvm.Cond) (r0 : Addr) (r1 : Addr) (c0 c1 : Int32) (ks : ClassId) (cst : Int32) (fv : Value) (h0 : Heap) (n0 : Nat) (Z0 : n0 ≤ h0.size) (E0 : Exa Z h0 r0 "java/lang/String") (Fv : Fld Z h0 r0 "java/lang/String" "value" "[B" .null) (Fc : Fld Z h0 r0 "java/lang/String" "coder" "B" (.int (0 : Int32))) (Vs : Arv Z h0 r1 ks .char (2 : Int32) [(.int c0), (.int c1)] (.int (0 : Int32))) (O0 : Old Z n0 h0) (g_r0 : n0 ≤ r0) (hne : r0 ≠ r1) (hb0 : 0 ≤ c0.toInt ∧ c0.toInt ≤ 65535) (hb1 : 0 ≤ c1.toInt ∧ c1.toInt ≤ 65535) (hp0 : ¬ ((255 : Int32) < c0)) (hp1 : ¬ ((255 : Int32) < c1)) (SS : Sts Z cst fv) :
  MetFree l (⟨"java/lang/String", "<init>", "([CIILjava/lang/Void;)V"⟩ : MethodName) (head1 (Jvm.Cond.code (⟨"java/lang/String", "<init>", "([CIILjava/lang/Void;)V"⟩ : MethodName) jdk_42_method_149_code 6 none :: ws) ({ frames := 2, cells := 1, slots := 2, locals := 35 } : Room)) (fun a U => a = #[(.ref r0), (.ref r1), (.int (0 : Int32)), (.int (2 : Int32)), .null] ∧ Z.Warmed39 U.vm ∧ U.heap = h0) (fun _ _ _ _ _ => True) (fun _ U o U' => ∃ v L, o = .returned v ∧ QSE_2 Z r0 r1 c0 c1 ks cst fv h0 n0 v U'.heap L ∧ FrameEnd U o U' L ({ frames := 2, cells := 1, slots := 2, locals := 35 } : Room).cells ({ frames := 2, cells := 1, slots := 2, locals := 35 } : Room).slots) := by
 refine MetFree.of_bodySF (plainFor_of_name pnc_java_lang_String) hisR ?_
 intro p e s m args below meth c s₁ Bd hml0 hP hK
 obtain ⟨rfl, hZ, hh⟩ := hP
 have hx := Bd.exec
 have hby := Bd.bytes
 have hml : c.maxLocals = 6 := hml0
 have hown : s.vm.findClass "java/lang/String" = some m.cls := findClass_of_methodNamed Bd.named
 have hnm := (name_of_methodNamed Bd.named Bd.method).1
 have X0 : Stand p l e ({ frames := 2, cells := 1, slots := 2, locals := 35 } : Room) s m #[(.ref r0), (.ref r1), (.int (0 : Int32)), (.int (2 : Int32)), .null] below meth c s₁ [] 0 0 := Stand.of_body Bd
 have e0 : s₁.heap = h0 := by rw [← hh, Bd.state]; rfl
 have N0 := Fr.nil n0
 have kp0 : Keep h0 h0 [r0] := Keep.refl _ _
 have G0 : ∀ t, Steps p.tables e below (s₁.setTop (mkF m 0 #[rv r0, rv r1, iv 0, iv 2, .val .null, .unset] [])) t → Steps p.tables e below (s₁.setTop (entryFrame m #[(.ref r0), (.ref r1), (.int (0 : Int32)), (.int (2 : Int32)), .null] 6)) t := fun t k => castTop (ef_rmSE_2 m r0 r1 (0 : Int32) (2 : Int32)) k
 obtain ⟨T1, X1, e1, st1⟩ := initO X0 hx hZ hown (hq hw 11 rfl) (hq hw 12 rfl) (hq hw 13 rfl) e0 (g := (mkF m 1 #[rv r0, rv r1, iv 0, iv 2, .val .null, .unset] [(.ref r0)])) rfl (by rw [hml]; rfl) rfl (hb hby d2_1) (by decide) (W := 0) (by show 2 * 0 + _ ≤ _; exact Nat.le_of_eq rfl) (by decide)
 have G2 : ∀ t, Steps p.tables e below (T1.setTop (mkF m 5 #[rv r0, rv r1, iv 0, iv 2, .val .null, .unset] [(.int (2 : Int32))])) t → Steps p.tables e below (s₁.setTop (entryFrame m #[(.ref r0), (.ref r1), (.int (0 : Int32)), (.int (2 : Int32)), .null] 6)) t := by
  intro t kt
  refine G0 _ ?_
  refine XS.aloadN X0.here hx rfl (hb hby d2_0) rfl rfl ?_
  refine st1 _ ?_
  refine XS.iloadN X1.here hx rfl (hb hby d2_4) rfl ?_
  exact kt
 obtain ⟨T3, X3, e3, st3⟩ := getS2 X1 hx hZ hown (host := "") (Or.inl (hq hw 14 rfl)) Via.refl e1 (SS.1.ext O0.2) (g := (mkF m 27 #[rv r0, rv r1, iv 0, iv 2, .val .null, .unset] [])) rfl (hb hby d2_27)
 have G4 : ∀ t, Steps p.tables e below (T3.setTop (mkF m 30 #[rv r0, rv r1, iv 0, iv 2, .val .null, .unset] [(.int cst)])) t → Steps p.tables e below (s₁.setTop (entryFrame m #[(.ref r0), (.ref r1), (.int (0 : Int32)), (.int (2 : Int32)), .null] 6)) t := by
  intro t kt
  refine G2 _ ?_
  refine XS.ifYes X1.here hx rfl (pc0 := 5) (pc' := 27) rfl (hb hby d2_5) rfl ((if0 _ _).trans (feq (by decide)).2) (by decide) (by decide) ?_
  refine st3 _ ?_
  exact kt
 have hc30_5 : ¬ (cst = (0 : Int32)) := SS.2.1
 obtain ⟨_, _, ⟨T6, L6, k6, n6⟩, -, X6, ⟨Lc6, hQ6, l6, y6, z6⟩, st6⟩ := Jvm.LawKit.callS X3 hx (y := (⟨"java/lang/StringUTF16", "compress", "([CII)[B"⟩ : MethodName)) hown (mvT hZ (hq hw 15 rfl)) (mvT hZ (hq hw 16 rfl)) (mvT hZ (hq hw 17 rfl)) (mvT hZ (hq hw 18 rfl)) (by decide) (backOf (W := 0) (rmC3_2 l Z a0 hw [] r1 c0 c1 ks cst fv h0 n0 Z0 Vs O0 hb0 hb1 hp0 hp1 SS) hZ (hq hw 18 rfl) (hq hw 17 rfl) (by decide) (by decide)) (g := (mkF m 36 #[rv r0, rv r1, iv 0, iv 2, .val .null, .unset] [(.int (2 : Int32)), (.int (0 : Int32)), (.ref r1)])) rfl (by rw [hml]; rfl) (argsL := [(.ref r1), (.int (0 : Int32)), (.int (2 : Int32))]) (rest := []) (lenOf pd_6 rfl) rfl (by show 2 * 0 + _ ≤ _; exact Nat.le_of_eq rfl) (hb hby d2_36) (fun _ _ => ⟨rfl, e3, (by decide : 0 + 1 ≤ _), (by decide : 0 + 2 ≤ _)⟩)
 dsimp only [Pt.U, Pt.locs, Pt.cells, Pt.slots] at X6 l6 y6 z6 st6 hQ6
 subst l6 y6 z6
 rcases hQ6 with ⟨b6, kb6, rfl, N6q, K6, g_b6, sz6, hq6, V6⟩
 ·skip
  have N6 := Fr.app N0 N6q
  have szk6 : h0.size ≤ b6 := Nat.le_trans kp0.1 sz6
  have ne_r0_b6 : r0 ≠ b6 := Nat.ne_of_lt (Nat.lt_of_lt_of_le E0.lt sz6)
  have ne_r1_b6 : r1 ≠ b6 := Nat.ne_of_lt (Nat.lt_of_lt_of_le Vs.lt sz6)
  have fa7 := E0.keep K6
  have fa8 := Fv.keep K6 nin0
  have fa9 := Fc.keep K6 nin0
  have fa10 := Vs.keep K6 nin0
  have fa11 := O0.keep K6 all0
  have z12 : n0 ≤ T6.heap.size := Nat.le_trans Z0 K6.1
  have kp13 : Keep h0 T6.heap [r0] := kp0.trans K6 all0
  obtain ⟨_, _, ⟨T14, L14, k14, n14⟩, -, X14, ⟨Lc14, hQ14, l14, y14, z14⟩, st14⟩ := Jvm.LawKit.callS X6 hx (y := (⟨"java/lang/StringUTF16", "coderFromArrayLen", "([BI)B"⟩ : MethodName)) hown (mvT hZ (hq hw 23 rfl)) (mvT hZ (hq hw 24 rfl)) (mvT hZ (hq hw 17 rfl)) (mvT hZ (hq hw 25 rfl)) (by decide) (backOf (W := 1) (rmCF_2_2 l Z a0 hw [] b6 kb6 [(.int (nar .byte (c0.toInt8.toInt32))), (.int (nar .byte (c1.toInt8.toInt32)))] T6.heap n0 z12 V6) hZ (hq hw 25 rfl) (hq hw 17 rfl) (by decide) (by decide)) (g := (mkF m 45 #[rv r0, rv r1, iv 0, iv 2, .val .null, rv b6] [(.int (2 : Int32)), (.ref b6), (.ref r0)])) rfl (by rw [hml]; rfl) (argsL := [(.ref b6), (.int (2 : Int32))]) (rest := [(.ref r0)]) (lenOf pd_7 rfl) rfl (by show 2 * 0 + _ ≤ _; exact Nat.le_of_eq rfl) (hb hby d2_45) (fun _ _ => ⟨rfl, rfl, (by decide : 1 + 0 ≤ _), (by decide : 2 + 0 ≤ _)⟩)
  dsimp only [Pt.U, Pt.locs, Pt.cells, Pt.slots] at X14 l14 y14 z14 st14 hQ14
  subst l14 y14 z14
  obtain ⟨rfl, N14q, eh14⟩ := hQ14
  have N14 := Fr.app N6 N14q
  obtain ⟨T15, h15, X15, e15, W15, st15⟩ := putFN X14 hx hZ hown (hq hw 26 rfl) Via.refl eh14 fa9 fa7 (Or.inr ⟨(hq hw 27 rfl), rfl, hnm⟩) (hq hw 2 rfl) (ty := .byte) (v' := (.int (0 : Int32))) (by decide) rfl (fits_nar_byte (0 : Int32)) (g := (mkF m 48 #[rv r0, rv r1, iv 0, iv 2, .val .null, rv b6] [(.int (0 : Int32)), (.ref r0)])) rfl rfl (hb hby d2_48)
  have fa16 := fa7.wr W15
  have fa17 := fa8.other W15 (Or.inr (slot_ne (Or.inr (hq hw 29 rfl)) (Or.inr (hq hw 27 rfl)) (by decide) (t := (.array .byte)) (t' := .byte) (by decide) (by decide)))
  have fa18 : Fld Z h15 r0 "java/lang/String" "coder" "B" (.int (0 : Int32)) := fa9.same W15
  have fa19 := fa10.other W15 (Ne.symm hne)
  have fa20 := fa11.wr W15 g_r0
  have fa21 := V6.other W15 (Ne.symm ne_r0_b6)
  have z22 : n0 ≤ h15.size := Nat.le_trans z12 (Nat.le_of_eq W15.size.symm)
  have kp23 : Keep h0 h15 [r0] := kp13.wr W15 (Or.inl (List.mem_of_getElem? (i := 0) rfl))
  have N15 := Fr.snoc X15 N14 g_r0
  obtain ⟨T24, h24, X24, e24, W24, st24⟩ := putF X15 hx hZ hown (host := "") (Or.inl (hq hw 28 rfl)) Via.refl e15 fa17 fa16 (Or.inr ⟨(hq hw 29 rfl), rfl, hnm⟩) (hq hw 2 rfl) (ty := (.array .byte)) (by decide) rfl rfl (g := (mkF m 54 #[rv r0, rv r1, iv 0, iv 2, .val .null, rv b6] [(.ref b6), (.ref r0)])) rfl rfl (hb hby d2_54)
  have fa25 := fa16.wr W24
  have fa26 : Fld Z h24 r0 "java/lang/String" "value" "[B" (.ref b6) := fa17.same W24
  have fa27 := fa18.other W24 (Or.inr (slot_ne (Or.inr (hq hw 27 rfl)) (Or.inr (hq hw 29 rfl)) (by decide) (t := .byte) (t' := (.array .byte)) (by decide) (by decide)))
  have fa28 := fa19.other W24 (Ne.symm hne)
  have fa29 := fa20.wr W24 g_r0
  have fa30 := fa21.other W24 (Ne.symm ne_r0_b6)
  have z31 : n0 ≤ h24.size := Nat.le_trans z22 (Nat.le_of_eq W24.size.symm)
  have kp32 : Keep h0 h24 [r0] := kp23.wr W24 (Or.inl (List.mem_of_getElem? (i := 0) rfl))
  have N24 := Fr.snoc X24 N15 g_r0
  obtain ⟨fs, hr, hrun, hended, hW, hsame⟩ := X24.leave (v := none) (fun _ => rfl)
  refine ⟨_, _, G4 _ ?_, hrun, hended, _, _, rfl, ?_, ⟨_, rfl⟩, hW, hsame.mono (by decide) (by decide)⟩
  ·skip
   refine XS.ifNo X3.here hx rfl (hb hby d2_30) rfl ((if0 _ _).trans (feq hc30_5).1) ?_
   refine XS.aloadN X3.here hx rfl (hb hby d2_33) rfl rfl ?_
   refine XS.iloadN X3.here hx rfl (hb hby d2_34) rfl ?_
   refine XS.iloadN X3.here hx rfl (hb hby d2_35) rfl ?_
   refine st6 _ ?_
   refine XS.astore X6.here hx rfl (hb hby d2_39) rfl rfl (l' := #[rv r0, rv r1, iv 0, iv 2, .val .null, rv b6]) rfl ?_
   refine XS.aloadN X6.here hx rfl (hb hby d2_41) rfl rfl ?_
   refine XS.aload X6.here hx rfl (hb hby d2_42) rfl rfl ?_
   refine XS.iloadN X6.here hx rfl (hb hby d2_44) rfl ?_
   refine st14 _ ?_
   refine st15 _ ?_
   refine XS.aloadN X15.here hx rfl (hb hby d2_51) rfl rfl ?_
   refine XS.aload X15.here hx rfl (hb hby d2_52) rfl rfl ?_
   refine st24 _ ?_
   exact X24.returnOut hx Bd.returns (hb hby d2_57) hr
  ·show QSE_2 Z r0 r1 c0 c1 ks cst fv h0 n0 _ T24.heap _
   rw [e24]
   exact ⟨rfl, N24, kp32, fa25, hq6, fa27, b6, kb6, fa26, szk6, g_b6, fa30⟩
def QSF_2 (Z : State) (r0 : Addr) (r1 : Addr) (c0 c1 : Int32) (ks : ClassId) (cst : Int32) (fv : Value) (h0 : Heap) (n0 : Nat) (v : Option Value) (h : Heap) (L : List Loc) : Prop := (v = none ∧ Fr n0 L ∧ Keep h0 h [r0] ∧ Exa Z h r0 "java/lang/String" ∧ (¬ ((255 : Int32) < c0) ∧ ¬ ((255 : Int32) < c1)) ∧ Fld Z h r0 "java/lang/String" "coder" "B" (.int (0 : Int32)) ∧ ∃ (t : Addr) (k : ClassId), Fld Z h r0 "java/lang/String" "value" "[B" (.ref t) ∧ h0.size ≤ t ∧ n0 ≤ t ∧ Arv Z h t k .byte (2 : Int32) [(.int (nar .byte (c0.toInt8.toInt32))), (.int (nar .byte (c1.toInt8.toInt32)))] (.int (0 : Int32)))
theorem ef_rmSF_2 (m : MethodId) (x0 : Addr) (x1 : Addr) : entryFrame m #[(.ref x0), (.ref x1)] 2 = mkF m 0 #[.val (.ref x0), .val (.ref x1)] [] := by first | (simp [entryFrame, mkF, argsToLocals, Value.category]; done) | rfl
set_option maxRecDepth 65536 in
set_option maxHeartbeats 40000000 in
theorem rmSF_2 (l : Launch) (Z : State) (a0 : Array Value) (hw : ∀ d ∈ tables_1, d.before a0 Z = true) (ws : List Jvm.Cond) (r0 : Addr) (r1 : Addr) (c0 c1 : Int32) (ks : ClassId) (cst : Int32) (fv : Value) (h0 : Heap) (n0 : Nat) (Z0 : n0 ≤ h0.size) (E0 : Exa Z h0 r0 "java/lang/String") (Fv : Fld Z h0 r0 "java/lang/String" "value" "[B" .null) (Fc : Fld Z h0 r0 "java/lang/String" "coder" "B" (.int (0 : Int32))) (Vs : Arv Z h0 r1 ks .char (2 : Int32) [(.int c0), (.int c1)] (.int (0 : Int32))) (O0 : Old Z n0 h0) (g_r0 : n0 ≤ r0) (hne : r0 ≠ r1) (hb0 : 0 ≤ c0.toInt ∧ c0.toInt ≤ 65535) (hb1 : 0 ≤ c1.toInt ∧ c1.toInt ≤ 65535) (hp0 : ¬ ((255 : Int32) < c0)) (hp1 : ¬ ((255 : Int32) < c1)) (SS : Sts Z cst fv) :
  MetFree l (⟨"java/lang/String", "<init>", "([C)V"⟩ : MethodName) (head1 (Jvm.Cond.code (⟨"java/lang/String", "<init>", "([C)V"⟩ : MethodName) jdk_42_method_3_code 2 none :: ws) ({ frames := 3, cells := 1, slots := 2, locals := 52 } : Room)) (fun a U => a = #[(.ref r0), (.ref r1)] ∧ Z.Warmed39 U.vm ∧ U.heap = h0) (fun _ _ _ _ _ => True) (fun _ U o U' => ∃ v L, o = .returned v ∧ QSF_2 Z r0 r1 c0 c1 ks cst fv h0 n0 v U'.heap L ∧ FrameEnd U o U' L ({ frames := 3, cells := 1, slots := 2, locals := 52 } : Room).cells ({ frames := 3, cells := 1, slots := 2, locals := 52 } : Room).slots) := by
 refine MetFree.of_bodySF (plainFor_of_name pnc_java_lang_String) hisR ?_
 intro p e s m args below meth c s₁ Bd hml0 hP hK
 obtain ⟨rfl, hZ, hh⟩ := hP
 have hx := Bd.exec
 have hby := Bd.bytes
 have hml : c.maxLocals = 2 := hml0
 have hown : s.vm.findClass "java/lang/String" = some m.cls := findClass_of_methodNamed Bd.named
 have hnm := (name_of_methodNamed Bd.named Bd.method).1
 have X0 : Stand p l e ({ frames := 3, cells := 1, slots := 2, locals := 52 } : Room) s m #[(.ref r0), (.ref r1)] below meth c s₁ [] 0 0 := Stand.of_body Bd
 have e0 : s₁.heap = h0 := by rw [← hh, Bd.state]; rfl
 have N0 := Fr.nil n0
 have kp0 : Keep h0 h0 [r0] := Keep.refl _ _
 have G0 : ∀ t, Steps p.tables e below (s₁.setTop (mkF m 0 #[rv r0, rv r1] [])) t → Steps p.tables e below (s₁.setTop (entryFrame m #[(.ref r0), (.ref r1)] 2)) t := fun t k => castTop (ef_rmSF_2 m r0 r1) k
 obtain ⟨cl1, Ar1, q1, S1, M1, H1, G1⟩ := id Vs
 obtain ⟨_, _, ⟨T2, L2, k2, n2⟩, -, X2, ⟨Lc2, hQ2, l2, y2, z2⟩, st2⟩ := X0.specialBack hx (y := (⟨"java/lang/String", "<init>", "([CIILjava/lang/Void;)V"⟩ : MethodName)) rfl hown (mvT hZ (hq hw 7 rfl)) (mvT hZ (hq hw 8 rfl)) (mvT hZ (hq hw 10 rfl)) (by decide) (backOf (W := 0) (rmSE_2 l Z a0 hw [] r0 r1 c0 c1 ks cst fv h0 n0 Z0 E0 Fv Fc Vs O0 g_r0 hne hb0 hb1 hp0 hp1 SS) hZ (hq hw 10 rfl) (hq hw 3 rfl) (by decide) (by decide)) (g := (mkF m 6 #[rv r0, rv r1] [.null, (.int (2 : Int32)), (.int (0 : Int32)), (.ref r1), (.ref r0)])) rfl (by rw [hml]; rfl) (Steps.refl _) (a := r0) (argsL := [(.ref r1), (.int (0 : Int32)), (.int (2 : Int32)), .null]) (rest := []) (lenOf pd_8 rfl) rfl (by show 2 * 0 + _ ≤ _; exact Nat.le_of_eq rfl) (hb hby d1_6) (fun _ _ => ⟨rfl, e0, (by decide : 0 + 1 ≤ _), (by decide : 0 + 2 ≤ _)⟩)
 dsimp only [Pt.U, Pt.locs, Pt.cells, Pt.slots] at X2 l2 y2 z2 st2 hQ2
 subst l2 y2 z2
 rcases hQ2 with ⟨rfl, N2q, K2, A2, hq2, Fc2, ta2, kb2, Fv2, sz2, g_ta2, V2⟩
 ·skip
  have N2 := Fr.app N0 N2q
  have szk2 : h0.size ≤ ta2 := Nat.le_trans kp0.1 sz2
  have ne_r0_ta2 : r0 ≠ ta2 := Nat.ne_of_lt (Nat.lt_of_lt_of_le E0.lt sz2)
  have ne_r1_ta2 : r1 ≠ ta2 := Nat.ne_of_lt (Nat.lt_of_lt_of_le Vs.lt sz2)
  have fa3 := E0.keep K2
  have fa4 := Vs.keep K2 (ninS (Ne.symm hne) nin0)
  have fa5 := O0.keep K2 (allS g_r0 all0)
  have z6 : n0 ≤ T2.heap.size := Nat.le_trans Z0 K2.1
  have kp7 : Keep h0 T2.heap [r0] := kp0.trans K2 (allS (Or.inl (List.mem_of_getElem? (i := 0) rfl)) all0)
  obtain ⟨fs, hr, hrun, hended, hW, hsame⟩ := X2.leave (v := none) (fun _ => rfl)
  refine ⟨_, _, G0 _ ?_, hrun, hended, _, _, rfl, ?_, ⟨_, rfl⟩, hW, hsame.mono (by decide) (by decide)⟩
  ·skip
   refine XS.aloadN X0.here hx rfl (hb hby d1_0) rfl rfl ?_
   refine XS.aloadN X0.here hx rfl (hb hby d1_1) rfl rfl ?_
   refine XS.iconst X0.here hx rfl (hb hby d1_2) ?_
   refine XS.aloadN X0.here hx rfl (hb hby d1_3) rfl rfl ?_
   refine X0.arraylength hx (by rw [e0]; exact Ar1.1) (State.isArrayOf_alike hZ.alike Ar1.2.1) (g := (mkF m 4 #[rv r0, rv r1] [(.ref r1), (.int (0 : Int32)), (.ref r1), (.ref r0)])) rfl rfl (hb hby d1_4) _ ?_
   rw [len_of S1 M1]
   refine XS.aconstNull X0.here hx rfl (hb hby d1_5) ?_
   refine st2.trans ?_
   exact X2.returnOut hx Bd.returns (hb hby d1_9) hr
  ·show QSF_2 Z r0 r1 c0 c1 ks cst fv h0 n0 _ T2.heap _
   exact ⟨rfl, N2, kp7, A2, hq2, Fc2, ta2, kb2, Fv2, szk2, g_ta2, V2⟩
def QC5_3 (Z : State) (r0 : Addr) (r2 : Addr) (c0 c1 c2 : Int32) (ks kd : ClassId) (h0 : Heap) (n0 : Nat) (v : Option Value) (h : Heap) (L : List Loc) : Prop := (v = some (.int (3 : Int32)) ∧ Fr n0 L ∧ Keep h0 h [r2] ∧ ¬ ((255 : Int32) < c0) ∧ ¬ ((255 : Int32) < c1) ∧ ¬ ((255 : Int32) < c2) ∧ Arv Z h r2 kd .byte (3 : Int32) [(.int (nar .byte (c0.toInt8.toInt32))), (.int (nar .byte (c1.toInt8.toInt32))), (.int (nar .byte (c2.toInt8.toInt32)))] (.int (0 : Int32)))
theorem ef_rmC5_3 (m : MethodId) (x0 : Addr) (x1 : Int32) (x2 : Addr) (x3 : Int32) (x4 : Int32) : entryFrame m #[(.ref x0), (.int x1), (.ref x2), (.int x3), (.int x4)] 7 = mkF m 0 #[.val (.ref x0), .val (.int x1), .val (.ref x2), .val (.int x3), .val (.int x4), .unset, .unset] [] := by first | (simp [entryFrame, mkF, argsToLocals, Value.category]; done) | rfl
set_option maxRecDepth 65536 in
set_option maxHeartbeats 40000000 in
theorem rmC5_3 (l : Launch) (Z : State) (a0 : Array Value) (hw : ∀ d ∈ tables_1, d.before a0 Z = true) (ws : List Jvm.Cond) (r0 : Addr) (r2 : Addr) (c0 c1 c2 : Int32) (ks kd : ClassId) (h0 : Heap) (n0 : Nat) (Z0 : n0 ≤ h0.size) (Vs : Arv Z h0 r0 ks .char (3 : Int32) [(.int c0), (.int c1), (.int c2)] (.int (0 : Int32))) (Vd : Arv Z h0 r2 kd .byte (3 : Int32) [(.int (0 : Int32)), (.int (0 : Int32)), (.int (0 : Int32))] (.int (0 : Int32))) (hne : r0 ≠ r2) (g_r2 : n0 ≤ r2) (hp0 : ¬ ((255 : Int32) < c0)) (hp1 : ¬ ((255 : Int32) < c1)) (hp2 : ¬ ((255 : Int32) < c2)) :
  MetFree l (⟨"java/lang/StringUTF16", "compress", "([CI[BII)I"⟩ : MethodName) (head1 (Jvm.Cond.code (⟨"java/lang/StringUTF16", "compress", "([CI[BII)I"⟩ : MethodName) jdk_52_method_21_code 7 (some .int) :: ws) ({ frames := 0, cells := 0, slots := 0, locals := 0 } : Room)) (fun a U => a = #[(.ref r0), (.int (0 : Int32)), (.ref r2), (.int (0 : Int32)), (.int (3 : Int32))] ∧ Z.Warmed39 U.vm ∧ U.heap = h0) (fun _ _ _ _ _ => True) (fun _ U o U' => ∃ v L, o = .returned v ∧ QC5_3 Z r0 r2 c0 c1 c2 ks kd h0 n0 v U'.heap L ∧ FrameEnd U o U' L ({ frames := 0, cells := 0, slots := 0, locals := 0 } : Room).cells ({ frames := 0, cells := 0, slots := 0, locals := 0 } : Room).slots) := by
 refine MetFree.of_bodySF (plainFor_of_name pnc_java_lang_StringUTF16) hisR ?_
 intro p e s m args below meth c s₁ Bd hml0 hP hK
 obtain ⟨rfl, hZ, hh⟩ := hP
 have hx := Bd.exec
 have hby := Bd.bytes
 have hml : c.maxLocals = 7 := hml0
 have hown : s.vm.findClass "java/lang/StringUTF16" = some m.cls := findClass_of_methodNamed Bd.named
 have hnm := (name_of_methodNamed Bd.named Bd.method).1
 have X0 : Stand p l e ({ frames := 0, cells := 0, slots := 0, locals := 0 } : Room) s m #[(.ref r0), (.int (0 : Int32)), (.ref r2), (.int (0 : Int32)), (.int (3 : Int32))] below meth c s₁ [] 0 0 := Stand.of_body Bd
 have e0 : s₁.heap = h0 := by rw [← hh, Bd.state]; rfl
 have N0 := Fr.nil n0
 have kp0 : Keep h0 h0 [r2] := Keep.refl _ _
 have G0 : ∀ t, Steps p.tables e below (s₁.setTop (mkF m 0 #[rv r0, iv 0, rv r2, iv 0, iv 3, .unset, .unset] [])) t → Steps p.tables e below (s₁.setTop (entryFrame m #[(.ref r0), (.int (0 : Int32)), (.ref r2), (.int (0 : Int32)), (.int (3 : Int32))] 7)) t := fun t k => castTop (ef_rmC5_3 m r0 (0 : Int32) r2 (0 : Int32) (3 : Int32)) k
 have G1 : ∀ t, Steps p.tables e below (s₁.setTop (mkF m 7 #[rv r0, iv 0, rv r2, iv 0, iv 3, iv 0, .unset] [(.int (3 : Int32)), (.int (0 : Int32))])) t → Steps p.tables e below (s₁.setTop (entryFrame m #[(.ref r0), (.int (0 : Int32)), (.ref r2), (.int (0 : Int32)), (.int (3 : Int32))] 7)) t := by
  intro t kt
  refine G0 _ ?_
  refine XS.iconst X0.here hx rfl (hb hby d5_0) ?_
  refine XS.istore X0.here hx rfl (hb hby d5_1) rfl (l' := #[rv r0, iv 0, rv r2, iv 0, iv 3, iv 0, .unset]) rfl ?_
  refine XS.iload X0.here hx rfl (hb hby d5_3) rfl ?_
  refine XS.iload X0.here hx rfl (hb hby d5_5) rfl ?_
  exact kt
 obtain ⟨cl2, Ar2, q2, S2, M2, H2, G2⟩ := id Vs
 have hin2 : ¬ ((0 : Int32) < 0 ∨ cl2.slots.size ≤ ((0 : Int32)).toNatClampNeg) := inb_of S2 ⟨by decide, by decide⟩
 have hat2 : cl2.slots[((0 : Int32)).toNatClampNeg]? = some (.int c0) := H2.at hin2 rfl
 have G3 : ∀ t, Steps p.tables e below (s₁.setTop (mkF m 20 #[rv r0, iv 0, rv r2, iv 0, iv 3, iv 0, iv c0] [(.int (255 : Int32)), (.int c0)])) t → Steps p.tables e below (s₁.setTop (entryFrame m #[(.ref r0), (.int (0 : Int32)), (.ref r2), (.int (0 : Int32)), (.int (3 : Int32))] 7)) t := by
  intro t kt
  refine G1 _ ?_
  refine XS.icmpNo X0.here hx rfl (hb hby d5_7) rfl (tlt (by decide)).2.1 ?_
  refine XS.aloadN X0.here hx rfl (hb hby d5_10) rfl rfl ?_
  refine XS.iloadN X0.here hx rfl (hb hby d5_11) rfl ?_
  refine X0.caload hx (j := (0 : Int32)) (v := (.int c0)) (by rw [e0]; exact Ar2.1) (State.isArrayOf_alike hZ.alike Ar2.2.1) Ar2.2.2 hin2 hat2 (g := (mkF m 12 #[rv r0, iv 0, rv r2, iv 0, iv 3, iv 0, .unset] [(.int (0 : Int32)), (.ref r0)])) rfl rfl (hb hby d5_12) _ ?_
  refine XS.istore X0.here hx rfl (hb hby d5_13) rfl (l' := #[rv r0, iv 0, rv r2, iv 0, iv 3, iv 0, iv c0]) rfl ?_
  refine XS.iload X0.here hx rfl (hb hby d5_15) rfl ?_
  refine XS.sipush X0.here hx rfl (hb hby d5_17) ?_
  exact kt
 have hc20_4 : ¬ ((255 : Int32) < c0) := hp0
 obtain ⟨cl5, Ar5, q5, S5, M5, H5, G5⟩ := id Vd
 have hin5 : ¬ ((0 : Int32) < 0 ∨ cl5.slots.size ≤ ((0 : Int32)).toNatClampNeg) := inb_of S5 ⟨by decide, by decide⟩
 obtain ⟨T6, h6, X6, e6, W6, st6⟩ := stB X0 hx hZ e0 Ar5 (j := (0 : Int32)) hin5 (g := (mkF m 31 #[rv r0, iv 0, rv r2, iv 0, iv 3, iv 0, iv c0] [(.int (c0.toInt8.toInt32)), (.int (0 : Int32)), (.ref r2)])) rfl rfl (hb hby d5_31)
 have fa7 := Vs.other W6 hne
 have z8 : n0 ≤ h6.size := Nat.le_trans Z0 (Nat.le_of_eq W6.size.symm)
 have kp9 : Keep h0 h6 [r2] := kp0.wr W6 (Or.inl (List.mem_of_getElem? (i := 0) rfl))
 have fa10 : Arv Z h6 r2 kd .byte (3 : Int32) [(.int (nar .byte (c0.toInt8.toInt32))), (.int (0 : Int32)), (.int (0 : Int32))] (.int (0 : Int32)) := Arv.set Ar5 q5 S5 M5 H5 G5 (fits_nar_byte _) W6 0 rfl (Nat.le_of_ble_eq_true rfl)
 have N6 := Fr.snoc X6 N0 g_r2
 have G11 : ∀ t, Steps p.tables e below (T6.setTop (mkF m 7 #[rv r0, iv 1, rv r2, iv 1, iv 3, iv 1, iv c0] [(.int (3 : Int32)), (.int (1 : Int32))])) t → Steps p.tables e below (s₁.setTop (entryFrame m #[(.ref r0), (.int (0 : Int32)), (.ref r2), (.int (0 : Int32)), (.int (3 : Int32))] 7)) t := by
  intro t kt
  refine G3 _ ?_
  refine XS.icmpYes X0.here hx rfl (pc0 := 20) (pc' := 26) rfl (hb hby d5_20) rfl (flt hc20_4).2.2.2 (by decide) (by decide) ?_
  refine XS.aloadN X0.here hx rfl (hb hby d5_26) rfl rfl ?_
  refine XS.iloadN X0.here hx rfl (hb hby d5_27) rfl ?_
  refine XS.iload X0.here hx rfl (hb hby d5_28) rfl ?_
  refine XS.i2b X0.here hx rfl (hb hby d5_30) rfl ?_
  refine st6 _ ?_
  refine XS.iinc X6.here hx rfl (hb hby d5_32) rfl (l' := #[rv r0, iv 1, rv r2, iv 0, iv 3, iv 0, iv c0]) rfl ?_
  refine XS.iinc X6.here hx rfl (hb hby d5_35) rfl (l' := #[rv r0, iv 1, rv r2, iv 1, iv 3, iv 0, iv c0]) rfl ?_
  refine XS.iinc X6.here hx rfl (hb hby d5_38) rfl (l' := #[rv r0, iv 1, rv r2, iv 1, iv 3, iv 1, iv c0]) rfl ?_
  refine XS.goto X6.here hx rfl (pc0 := 41) (pc' := 3) rfl (hb hby d5_41) (by decide) (by decide) ?_
  show Steps p.tables e below (T6.setTop (mkF m 3 #[rv r0, iv 1, rv r2, iv 1, iv 3, iv 1, iv c0] [])) _
  refine XS.iload X6.here hx rfl (hb hby d5_3) rfl ?_
  refine XS.iload X6.here hx rfl (hb hby d5_5) rfl ?_
  exact kt
 obtain ⟨cl12, Ar12, q12, S12, M12, H12, G12⟩ := id fa7
 have hin12 : ¬ ((1 : Int32) < 0 ∨ cl12.slots.size ≤ ((1 : Int32)).toNatClampNeg) := inb_of S12 ⟨by decide, by decide⟩
 have hat12 : cl12.slots[((1 : Int32)).toNatClampNeg]? = some (.int c1) := H12.at hin12 rfl
 have G13 : ∀ t, Steps p.tables e below (T6.setTop (mkF m 20 #[rv r0, iv 1, rv r2, iv 1, iv 3, iv 1, iv c1] [(.int (255 : Int32)), (.int c1)])) t → Steps p.tables e below (s₁.setTop (entryFrame m #[(.ref r0), (.int (0 : Int32)), (.ref r2), (.int (0 : Int32)), (.int (3 : Int32))] 7)) t := by
  intro t kt
  refine G11 _ ?_
  refine XS.icmpNo X6.here hx rfl (hb hby d5_7) rfl (tlt (by decide)).2.1 ?_
  refine XS.aloadN X6.here hx rfl (hb hby d5_10) rfl rfl ?_
  refine XS.iloadN X6.here hx rfl (hb hby d5_11) rfl ?_
  refine X6.caload hx (j := (1 : Int32)) (v := (.int c1)) (by rw [e6]; exact Ar12.1) (State.isArrayOf_alike hZ.alike Ar12.2.1) Ar12.2.2 hin12 hat12 (g := (mkF m 12 #[rv r0, iv 1, rv r2, iv 1, iv 3, iv 1, iv c0] [(.int (1 : Int32)), (.ref r0)])) rfl rfl (hb hby d5_12) _ ?_
  refine XS.istore X6.here hx rfl (hb hby d5_13) rfl (l' := #[rv r0, iv 1, rv r2, iv 1, iv 3, iv 1, iv c1]) rfl ?_
  refine XS.iload X6.here hx rfl (hb hby d5_15) rfl ?_
  refine XS.sipush X6.here hx rfl (hb hby d5_17) ?_
  exact kt
 have hc20_14 : ¬ ((255 : Int32) < c1) := hp1
 obtain ⟨cl15, Ar15, q15, S15, M15, H15, G15⟩ := id fa10
 have hin15 : ¬ ((1 : Int32) < 0 ∨ cl15.slots.size ≤ ((1 : Int32)).toNatClampNeg) := inb_of S15 ⟨by decide, by decide⟩
 obtain ⟨T16, h16, X16, e16, W16, st16⟩ := stB X6 hx hZ e6 Ar15 (j := (1 : Int32)) hin15 (g := (mkF m 31 #[rv r0, iv 1, rv r2, iv 1, iv 3, iv 1, iv c1] [(.int (c1.toInt8.toInt32)), (.int (1 : Int32)), (.ref r2)])) rfl rfl (hb hby d5_31)
 have fa17 := fa7.other W16 hne
 have z18 : n0 ≤ h16.size := Nat.le_trans z8 (Nat.le_of_eq W16.size.symm)
 have kp19 : Keep h0 h16 [r2] := kp9.wr W16 (Or.inl (List.mem_of_getElem? (i := 0) rfl))
 have fa20 : Arv Z h16 r2 kd .byte (3 : Int32) [(.int (nar .byte (c0.toInt8.toInt32))), (.int (nar .byte (c1.toInt8.toInt32))), (.int (0 : Int32))] (.int (0 : Int32)) := Arv.set Ar15 q15 S15 M15 H15 G15 (fits_nar_byte _) W16 1 rfl (Nat.le_of_ble_eq_true rfl)
 have N16 := Fr.snoc X16 N6 g_r2
 have G21 : ∀ t, Steps p.tables e below (T16.setTop (mkF m 7 #[rv r0, iv 2, rv r2, iv 2, iv 3, iv 2, iv c1] [(.int (3 : Int32)), (.int (2 : Int32))])) t → Steps p.tables e below (s₁.setTop (entryFrame m #[(.ref r0), (.int (0 : Int32)), (.ref r2), (.int (0 : Int32)), (.int (3 : Int32))] 7)) t := by
  intro t kt
  refine G13 _ ?_
  refine XS.icmpYes X6.here hx rfl (pc0 := 20) (pc' := 26) rfl (hb hby d5_20) rfl (flt hc20_14).2.2.2 (by decide) (by decide) ?_
  refine XS.aloadN X6.here hx rfl (hb hby d5_26) rfl rfl ?_
  refine XS.iloadN X6.here hx rfl (hb hby d5_27) rfl ?_
  refine XS.iload X6.here hx rfl (hb hby d5_28) rfl ?_
  refine XS.i2b X6.here hx rfl (hb hby d5_30) rfl ?_
  refine st16 _ ?_
  refine XS.iinc X16.here hx rfl (hb hby d5_32) rfl (l' := #[rv r0, iv 2, rv r2, iv 1, iv 3, iv 1, iv c1]) rfl ?_
  refine XS.iinc X16.here hx rfl (hb hby d5_35) rfl (l' := #[rv r0, iv 2, rv r2, iv 2, iv 3, iv 1, iv c1]) rfl ?_
  refine XS.iinc X16.here hx rfl (hb hby d5_38) rfl (l' := #[rv r0, iv 2, rv r2, iv 2, iv 3, iv 2, iv c1]) rfl ?_
  refine XS.goto X16.here hx rfl (pc0 := 41) (pc' := 3) rfl (hb hby d5_41) (by decide) (by decide) ?_
  refine XS.iload X16.here hx rfl (hb hby d5_3) rfl ?_
  refine XS.iload X16.here hx rfl (hb hby d5_5) rfl ?_
  exact kt
 obtain ⟨cl22, Ar22, q22, S22, M22, H22, G22⟩ := id fa17
 have hin22 : ¬ ((2 : Int32) < 0 ∨ cl22.slots.size ≤ ((2 : Int32)).toNatClampNeg) := inb_of S22 ⟨by decide, by decide⟩
 have hat22 : cl22.slots[((2 : Int32)).toNatClampNeg]? = some (.int c2) := H22.at hin22 rfl
 have G23 : ∀ t, Steps p.tables e below (T16.setTop (mkF m 20 #[rv r0, iv 2, rv r2, iv 2, iv 3, iv 2, iv c2] [(.int (255 : Int32)), (.int c2)])) t → Steps p.tables e below (s₁.setTop (entryFrame m #[(.ref r0), (.int (0 : Int32)), (.ref r2), (.int (0 : Int32)), (.int (3 : Int32))] 7)) t := by
  intro t kt
  refine G21 _ ?_
  refine XS.icmpNo X16.here hx rfl (hb hby d5_7) rfl (tlt (by decide)).2.1 ?_
  refine XS.aloadN X16.here hx rfl (hb hby d5_10) rfl rfl ?_
  show Steps p.tables e below (T16.setTop (mkF m 11 #[rv r0, iv 2, rv r2, iv 2, iv 3, iv 2, iv c1] [(.ref r0)])) _
  refine XS.iloadN X16.here hx rfl (hb hby d5_11) rfl ?_
  refine X16.caload hx (j := (2 : Int32)) (v := (.int c2)) (by rw [e16]; exact Ar22.1) (State.isArrayOf_alike hZ.alike Ar22.2.1) Ar22.2.2 hin22 hat22 (g := (mkF m 12 #[rv r0, iv 2, rv r2, iv 2, iv 3, iv 2, iv c1] [(.int (2 : Int32)), (.ref r0)])) rfl rfl (hb hby d5_12) _ ?_
  refine XS.istore X16.here hx rfl (hb hby d5_13) rfl (l' := #[rv r0, iv 2, rv r2, iv 2, iv 3, iv 2, iv c2]) rfl ?_
  refine XS.iload X16.here hx rfl (hb hby d5_15) rfl ?_
  refine XS.sipush X16.here hx rfl (hb hby d5_17) ?_
  exact kt
 have hc20_24 : ¬ ((255 : Int32) < c2) := hp2
 obtain ⟨cl25, Ar25, q25, S25, M25, H25, G25⟩ := id fa20
 have hin25 : ¬ ((2 : Int32) < 0 ∨ cl25.slots.size ≤ ((2 : Int32)).toNatClampNeg) := inb_of S25 ⟨by decide, by decide⟩
 obtain ⟨T26, h26, X26, e26, W26, st26⟩ := stB X16 hx hZ e16 Ar25 (j := (2 : Int32)) hin25 (g := (mkF m 31 #[rv r0, iv 2, rv r2, iv 2, iv 3, iv 2, iv c2] [(.int (c2.toInt8.toInt32)), (.int (2 : Int32)), (.ref r2)])) rfl rfl (hb hby d5_31)
 have fa27 := fa17.other W26 hne
 have z28 : n0 ≤ h26.size := Nat.le_trans z18 (Nat.le_of_eq W26.size.symm)
 have kp29 : Keep h0 h26 [r2] := kp19.wr W26 (Or.inl (List.mem_of_getElem? (i := 0) rfl))
 have fa30 : Arv Z h26 r2 kd .byte (3 : Int32) [(.int (nar .byte (c0.toInt8.toInt32))), (.int (nar .byte (c1.toInt8.toInt32))), (.int (nar .byte (c2.toInt8.toInt32)))] (.int (0 : Int32)) := Arv.set Ar25 q25 S25 M25 H25 G25 (fits_nar_byte _) W26 2 rfl (Nat.le_of_ble_eq_true rfl)
 have N26 := Fr.snoc X26 N16 g_r2
 have G31 : ∀ t, Steps p.tables e below (T26.setTop (mkF m 7 #[rv r0, iv 3, rv r2, iv 3, iv 3, iv 3, iv c2] [(.int (3 : Int32)), (.int (3 : Int32))])) t → Steps p.tables e below (s₁.setTop (entryFrame m #[(.ref r0), (.int (0 : Int32)), (.ref r2), (.int (0 : Int32)), (.int (3 : Int32))] 7)) t := by
  intro t kt
  refine G23 _ ?_
  refine XS.icmpYes X16.here hx rfl (pc0 := 20) (pc' := 26) rfl (hb hby d5_20) rfl (flt hc20_24).2.2.2 (by decide) (by decide) ?_
  refine XS.aloadN X16.here hx rfl (hb hby d5_26) rfl rfl ?_
  refine XS.iloadN X16.here hx rfl (hb hby d5_27) rfl ?_
  refine XS.iload X16.here hx rfl (hb hby d5_28) rfl ?_
  refine XS.i2b X16.here hx rfl (hb hby d5_30) rfl ?_
  refine st26 _ ?_
  refine XS.iinc X26.here hx rfl (hb hby d5_32) rfl (l' := #[rv r0, iv 3, rv r2, iv 2, iv 3, iv 2, iv c2]) rfl ?_
  refine XS.iinc X26.here hx rfl (hb hby d5_35) rfl (l' := #[rv r0, iv 3, rv r2, iv 3, iv 3, iv 2, iv c2]) rfl ?_
  refine XS.iinc X26.here hx rfl (hb hby d5_38) rfl (l' := #[rv r0, iv 3, rv r2, iv 3, iv 3, iv 3, iv c2]) rfl ?_
  refine XS.goto X26.here hx rfl (pc0 := 41) (pc' := 3) rfl (hb hby d5_41) (by decide) (by decide) ?_
  refine XS.iload X26.here hx rfl (hb hby d5_3) rfl ?_
  refine XS.iload X26.here hx rfl (hb hby d5_5) rfl ?_
  exact kt
 obtain ⟨fs, hr, hrun, hended, hW, hsame⟩ := X26.leave (v := some (.int (3 : Int32))) (fun h => by rw [Bd.returns] at h; cases h)
 refine ⟨_, _, G31 _ ?_, hrun, hended, _, _, rfl, ?_, ⟨_, rfl⟩, hW, hsame.mono (by decide) (by decide)⟩
 ·skip
  refine XS.icmpYes X26.here hx rfl (pc0 := 7) (pc' := 44) rfl (hb hby d5_7) rfl (flt (by decide)).2.1 (by decide) (by decide) ?_
  refine XS.iload X26.here hx rfl (hb hby d5_44) rfl ?_
  exact retI X26 hx Bd.returns (hb hby d5_46) hr
 ·show QC5_3 Z r0 r2 c0 c1 c2 ks kd h0 n0 _ T26.heap _
  rw [e26]
  exact ⟨rfl, N26, kp29, hp0, hp1, hp2, fa30⟩
def QC3_3 (Z : State) (r0 : Addr) (c0 c1 c2 : Int32) (ks : ClassId) (cst : Int32) (fv : Value) (h0 : Heap) (n0 : Nat) (v : Option Value) (h : Heap) (L : List Loc) : Prop := (∃ (b : Addr) (k : ClassId), v = some (.ref b) ∧ Fr n0 L ∧ Keep h0 h [] ∧ n0 ≤ b ∧ h0.size ≤ b ∧ (¬ ((255 : Int32) < c0) ∧ ¬ ((255 : Int32) < c1) ∧ ¬ ((255 : Int32) < c2)) ∧ Arv Z h b k .byte (3 : Int32) [(.int (nar .byte (c0.toInt8.toInt32))), (.int (nar .byte (c1.toInt8.toInt32))), (.int (nar .byte (c2.toInt8.toInt32)))] (.int (0 : Int32)))
theorem ef_rmC3_3 (m : MethodId) (x0 : Addr) (x1 : Int32) (x2 : Int32) : entryFrame m #[(.ref x0), (.int x1), (.int x2)] 6 = mkF m 0 #[.val (.ref x0), .val (.int x1), .val (.int x2), .unset, .unset, .unset] [] := by first | (simp [entryFrame, mkF, argsToLocals, Value.category]; done) | rfl
set_option maxRecDepth 65536 in
set_option maxHeartbeats 40000000 in
theorem rmC3_3 (l : Launch) (Z : State) (a0 : Array Value) (hw : ∀ d ∈ tables_1, d.before a0 Z = true) (ws : List Jvm.Cond) (r0 : Addr) (c0 c1 c2 : Int32) (ks : ClassId) (cst : Int32) (fv : Value) (h0 : Heap) (n0 : Nat) (Z0 : n0 ≤ h0.size) (Vs : Arv Z h0 r0 ks .char (3 : Int32) [(.int c0), (.int c1), (.int c2)] (.int (0 : Int32))) (O0 : Old Z n0 h0) (hb0 : 0 ≤ c0.toInt ∧ c0.toInt ≤ 65535) (hb1 : 0 ≤ c1.toInt ∧ c1.toInt ≤ 65535) (hb2 : 0 ≤ c2.toInt ∧ c2.toInt ≤ 65535) (hp0 : ¬ ((255 : Int32) < c0)) (hp1 : ¬ ((255 : Int32) < c1)) (hp2 : ¬ ((255 : Int32) < c2)) (SS : Sts Z cst fv) :
  MetFree l (⟨"java/lang/StringUTF16", "compress", "([CII)[B"⟩ : MethodName) (head1 (Jvm.Cond.code (⟨"java/lang/StringUTF16", "compress", "([CII)[B"⟩ : MethodName) jdk_52_method_16_code 6 (some (.array .byte)) :: ws) ({ frames := 1, cells := 1, slots := 3, locals := 18 } : Room)) (fun a U => a = #[(.ref r0), (.int (0 : Int32)), (.int (3 : Int32))] ∧ Z.Warmed39 U.vm ∧ U.heap = h0) (fun _ _ _ _ _ => True) (fun _ U o U' => ∃ v L, o = .returned v ∧ QC3_3 Z r0 c0 c1 c2 ks cst fv h0 n0 v U'.heap L ∧ FrameEnd U o U' L ({ frames := 1, cells := 1, slots := 3, locals := 18 } : Room).cells ({ frames := 1, cells := 1, slots := 3, locals := 18 } : Room).slots) := by
 refine MetFree.of_bodySF (plainFor_of_name pnc_java_lang_StringUTF16) hisR ?_
 intro p e s m args below meth c s₁ Bd hml0 hP hK
 obtain ⟨rfl, hZ, hh⟩ := hP
 have hx := Bd.exec
 have hby := Bd.bytes
 have hml : c.maxLocals = 6 := hml0
 have hown : s.vm.findClass "java/lang/StringUTF16" = some m.cls := findClass_of_methodNamed Bd.named
 have hnm := (name_of_methodNamed Bd.named Bd.method).1
 have X0 : Stand p l e ({ frames := 1, cells := 1, slots := 3, locals := 18 } : Room) s m #[(.ref r0), (.int (0 : Int32)), (.int (3 : Int32))] below meth c s₁ [] 0 0 := Stand.of_body Bd
 have e0 : s₁.heap = h0 := by rw [← hh, Bd.state]; rfl
 have N0 := Fr.nil n0
 have kp0 : Keep h0 h0 [] := Keep.refl _ _
 have G0 : ∀ t, Steps p.tables e below (s₁.setTop (mkF m 0 #[rv r0, iv 0, iv 3, .unset, .unset, .unset] [])) t → Steps p.tables e below (s₁.setTop (entryFrame m #[(.ref r0), (.int (0 : Int32)), (.int (3 : Int32))] 6)) t := fun t k => castTop (ef_rmC3_3 m r0 (0 : Int32) (3 : Int32)) k
 obtain ⟨T1, h1, k1, X1, e1, E1, A1, st1⟩ := newP X0 hx hZ (hq hw 19 rfl) e0 (g := (mkF m 1 #[rv r0, iv 0, iv 3, .unset, .unset, .unset] [(.int (3 : Int32))])) rfl (hb hby d4_1) rfl (by decide) (cap := 3) (by decide) (by decide) (by decide) (by decide)
 obtain ⟨b1, g1⟩ : ∃ z, z = h0.size := ⟨_, rfl⟩
 rw [← g1] at A1 st1
 have g_b1 : n0 ≤ b1 := Nat.le_trans Z0 (Nat.le_of_eq g1.symm)
 have sz_b1 : h0.size ≤ b1 := Nat.le_trans kp0.1 (Nat.le_of_eq g1.symm)
 have ne_r0_b1 : r0 ≠ b1 := Nat.ne_of_lt (Nat.lt_of_lt_of_le Vs.lt (Nat.le_of_eq g1.symm))
 have fa2 := Vs.ext E1
 have fa3 := O0.ext E1
 have z4 : n0 ≤ h1.size := Nat.le_trans Z0 E1.1
 have kp5 : Keep h0 h1 [] := kp0.ext E1
 have fa6 : Arv Z h1 b1 k1 .byte (3 : Int32) [(.int (0 : Int32)), (.int (0 : Int32)), (.int (0 : Int32))] (.int (0 : Int32)) := (Arv.new A1 (by decide)).pad (pad_rep [] (.int (0 : Int32)) 3)
 obtain ⟨_, _, ⟨T7, L7, k7, n7⟩, -, X7, ⟨Lc7, hQ7, l7, y7, z7⟩, st7⟩ := Jvm.LawKit.callS X1 hx (y := (⟨"java/lang/StringUTF16", "compress", "([CI[BII)I"⟩ : MethodName)) hown (mvT hZ (hq hw 20 rfl)) (mvT hZ (hq hw 21 rfl)) (mvT hZ (hq hw 17 rfl)) (mvT hZ (hq hw 22 rfl)) (by decide) (backOf (W := 0) (rmC5_3 l Z a0 hw [] r0 b1 c0 c1 c2 ks k1 h1 n0 z4 fa2 fa6 ne_r0_b1 g_b1 hp0 hp1 hp2) hZ (hq hw 22 rfl) (hq hw 17 rfl) (by decide) (by decide)) (g := (mkF m 9 #[rv r0, iv 0, iv 3, rv b1, .unset, .unset] [(.int (3 : Int32)), (.int (0 : Int32)), (.ref b1), (.int (0 : Int32)), (.ref r0)])) rfl (by rw [hml]; rfl) (argsL := [(.ref r0), (.int (0 : Int32)), (.ref b1), (.int (0 : Int32)), (.int (3 : Int32))]) (rest := []) (lenOf pd_5 rfl) rfl (by show 2 * 0 + _ ≤ _; exact Nat.le_of_eq rfl) (hb hby d4_9) (fun _ _ => ⟨rfl, e1, (by decide : 1 + 0 ≤ _), (by decide : 3 + 0 ≤ _)⟩)
 dsimp only [Pt.U, Pt.locs, Pt.cells, Pt.slots] at X7 l7 y7 z7 st7 hQ7
 subst l7 y7 z7
 rcases hQ7 with ⟨rfl, N7q, K7, hq7_0, hq7_1, hq7_2, V7⟩
 ·skip
  have N7 := Fr.app N0 N7q
  have fa8 := fa2.keep K7 (ninS ne_r0_b1 nin0)
  have fa9 := fa3.keep K7 (allS g_b1 all0)
  have z10 : n0 ≤ T7.heap.size := Nat.le_trans z4 K7.1
  have kp11 : Keep h0 T7.heap [] := kp5.trans K7 (allS (Or.inr sz_b1) all0)
  have G12 : ∀ t, Steps p.tables e below (T7.setTop (mkF m 17 #[rv r0, iv 0, iv 3, rv b1, iv 3, .unset] [(.int (3 : Int32)), (.int (3 : Int32))])) t → Steps p.tables e below (s₁.setTop (entryFrame m #[(.ref r0), (.int (0 : Int32)), (.int (3 : Int32))] 6)) t := by
   intro t kt
   refine G0 _ ?_
   refine XS.iloadN X0.here hx rfl (hb hby d4_0) rfl ?_
   refine st1 _ ?_
   refine XS.astoreN X1.here hx rfl (hb hby d4_3) rfl rfl (l' := #[rv r0, iv 0, iv 3, rv b1, .unset, .unset]) rfl ?_
   refine XS.aloadN X1.here hx rfl (hb hby d4_4) rfl rfl ?_
   refine XS.iloadN X1.here hx rfl (hb hby d4_5) rfl ?_
   refine XS.aloadN X1.here hx rfl (hb hby d4_6) rfl rfl ?_
   refine XS.iconst X1.here hx rfl (hb hby d4_7) ?_
   refine XS.iloadN X1.here hx rfl (hb hby d4_8) rfl ?_
   refine st7 _ ?_
   refine XS.istore X7.here hx rfl (hb hby d4_12) rfl (l' := #[rv r0, iv 0, iv 3, rv b1, iv 3, .unset]) rfl ?_
   refine XS.iload X7.here hx rfl (hb hby d4_14) rfl ?_
   refine XS.iloadN X7.here hx rfl (hb hby d4_16) rfl ?_
   exact kt
  obtain ⟨fs, hr, hrun, hended, hW, hsame⟩ := X7.leave (v := some (.ref b1)) (fun h => by rw [Bd.returns] at h; cases h)
  refine ⟨_, _, G12 _ ?_, hrun, hended, _, _, rfl, ?_, ⟨_, rfl⟩, hW, hsame.mono (by decide) (by decide)⟩
  ·skip
   refine XS.icmpYes X7.here hx rfl (pc0 := 17) (pc' := 57) rfl (hb hby d4_17) rfl (teq (by decide)).1 (by decide) (by decide) ?_
   refine XS.aloadN X7.here hx rfl (hb hby d4_57) rfl rfl ?_
   exact retOut X7 hx Bd.returns rfl (Or.inr (Or.inr (Or.inr (Or.inr ⟨rfl, rfl, rfl⟩)))) (hb hby d4_58) hr
  ·show QC3_3 Z r0 c0 c1 c2 ks cst fv h0 n0 _ T7.heap _
   exact ⟨b1, k1, rfl, N7, kp11, g_b1, sz_b1, ⟨hq7_0, hq7_1, hq7_2⟩, V7⟩
def QCF_3_3 (Z : State) (r0 : Addr) (kk : ClassId) (vs : List Value) (h0 : Heap) (n0 : Nat) (v : Option Value) (h : Heap) (L : List Loc) : Prop := v = some (.int (0 : Int32)) ∧ Fr n0 L ∧ h = h0
theorem ef_rmCF_3_3 (m : MethodId) (x0 : Addr) (x1 : Int32) : entryFrame m #[(.ref x0), (.int x1)] 2 = mkF m 0 #[.val (.ref x0), .val (.int x1)] [] := by first | (simp [entryFrame, mkF, argsToLocals, Value.category]; done) | rfl
set_option maxRecDepth 65536 in
set_option maxHeartbeats 40000000 in
theorem rmCF_3_3 (l : Launch) (Z : State) (a0 : Array Value) (hw : ∀ d ∈ tables_1, d.before a0 Z = true) (ws : List Jvm.Cond) (r0 : Addr) (kk : ClassId) (vs : List Value) (h0 : Heap) (n0 : Nat) (Z0 : n0 ≤ h0.size) (V0 : Arv Z h0 r0 kk .byte (3 : Int32) vs (.int (0 : Int32))) :
  MetFree l (⟨"java/lang/StringUTF16", "coderFromArrayLen", "([BI)B"⟩ : MethodName) (head1 (Jvm.Cond.code (⟨"java/lang/StringUTF16", "coderFromArrayLen", "([BI)B"⟩ : MethodName) jdk_52_method_15_code 2 (some .byte) :: ws) ({ frames := 0, cells := 0, slots := 0, locals := 0 } : Room)) (fun a U => a = #[(.ref r0), (.int (3 : Int32))] ∧ Z.Warmed39 U.vm ∧ U.heap = h0) (fun _ _ _ _ _ => True) (fun _ U o U' => ∃ v L, o = .returned v ∧ QCF_3_3 Z r0 kk vs h0 n0 v U'.heap L ∧ FrameEnd U o U' L ({ frames := 0, cells := 0, slots := 0, locals := 0 } : Room).cells ({ frames := 0, cells := 0, slots := 0, locals := 0 } : Room).slots) := by
 refine MetFree.of_bodySF (plainFor_of_name pnc_java_lang_StringUTF16) hisR ?_
 intro p e s m args below meth c s₁ Bd hml0 hP hK
 obtain ⟨rfl, hZ, hh⟩ := hP
 have hx := Bd.exec
 have hby := Bd.bytes
 have hml : c.maxLocals = 2 := hml0
 have hown : s.vm.findClass "java/lang/StringUTF16" = some m.cls := findClass_of_methodNamed Bd.named
 have hnm := (name_of_methodNamed Bd.named Bd.method).1
 have X0 : Stand p l e ({ frames := 0, cells := 0, slots := 0, locals := 0 } : Room) s m #[(.ref r0), (.int (3 : Int32))] below meth c s₁ [] 0 0 := Stand.of_body Bd
 have e0 : s₁.heap = h0 := by rw [← hh, Bd.state]; rfl
 have N0 := Fr.nil n0
 have kp0 : Keep h0 h0 [] := Keep.refl _ _
 have G0 : ∀ t, Steps p.tables e below (s₁.setTop (mkF m 0 #[rv r0, iv 3] [])) t → Steps p.tables e below (s₁.setTop (entryFrame m #[(.ref r0), (.int (3 : Int32))] 2)) t := fun t k => castTop (ef_rmCF_3_3 m r0 (3 : Int32)) k
 obtain ⟨cl1, Ar1, q1, S1, M1, H1, G1⟩ := id V0
 obtain ⟨fs, hr, hrun, hended, hW, hsame⟩ := X0.leave (v := some (.int (0 : Int32))) (fun h => by rw [Bd.returns] at h; cases h)
 refine ⟨_, _, G0 _ ?_, hrun, hended, _, _, rfl, ?_, ⟨_, rfl⟩, hW, hsame.mono (by decide) (by decide)⟩
 ·skip
  refine XS.iloadN X0.here hx rfl (hb hby d6_0) rfl ?_
  refine XS.aloadN X0.here hx rfl (hb hby d6_1) rfl rfl ?_
  refine X0.arraylength hx (by rw [e0]; exact Ar1.1) (State.isArrayOf_alike hZ.alike Ar1.2.1) (g := (mkF m 2 #[rv r0, iv 3] [(.ref r0), (.int (3 : Int32))])) rfl rfl (hb hby d6_2) _ ?_
  rw [len_of S1 M1]
  refine XS.isub X0.here hx rfl (hb hby d6_3) rfl ?_
  refine XS.bipush X0.here hx rfl (hb hby d6_4) ?_
  refine XS.iushr X0.here hx rfl (hb hby d6_6) rfl ?_
  refine XS.i2b X0.here hx rfl (hb hby d6_7) rfl ?_
  exact retN X0 hx (t := .byte) Bd.returns (by simp) (hb hby d6_8) hr
 ·show QCF_3_3 Z r0 kk vs h0 n0 _ s₁.heap _
  rw [e0]
  exact ⟨rfl, N0, rfl⟩
def QSE_3 (Z : State) (r0 : Addr) (r1 : Addr) (c0 c1 c2 : Int32) (ks : ClassId) (cst : Int32) (fv : Value) (h0 : Heap) (n0 : Nat) (v : Option Value) (h : Heap) (L : List Loc) : Prop := (v = none ∧ Fr n0 L ∧ Keep h0 h [r0] ∧ Exa Z h r0 "java/lang/String" ∧ (¬ ((255 : Int32) < c0) ∧ ¬ ((255 : Int32) < c1) ∧ ¬ ((255 : Int32) < c2)) ∧ Fld Z h r0 "java/lang/String" "coder" "B" (.int (0 : Int32)) ∧ ∃ (t : Addr) (k : ClassId), Fld Z h r0 "java/lang/String" "value" "[B" (.ref t) ∧ h0.size ≤ t ∧ n0 ≤ t ∧ Arv Z h t k .byte (3 : Int32) [(.int (nar .byte (c0.toInt8.toInt32))), (.int (nar .byte (c1.toInt8.toInt32))), (.int (nar .byte (c2.toInt8.toInt32)))] (.int (0 : Int32)))
theorem ef_rmSE_3 (m : MethodId) (x0 : Addr) (x1 : Addr) (x2 : Int32) (x3 : Int32) : entryFrame m #[(.ref x0), (.ref x1), (.int x2), (.int x3), .null] 6 = mkF m 0 #[.val (.ref x0), .val (.ref x1), .val (.int x2), .val (.int x3), .val .null, .unset] [] := by first | (simp [entryFrame, mkF, argsToLocals, Value.category]; done) | rfl
set_option maxRecDepth 65536 in
set_option maxHeartbeats 40000000 in
theorem rmSE_3 (l : Launch) (Z : State) (a0 : Array Value) (hw : ∀ d ∈ tables_1, d.before a0 Z = true) (ws : List Jvm.Cond) (r0 : Addr) (r1 : Addr) (c0 c1 c2 : Int32) (ks : ClassId) (cst : Int32) (fv : Value) (h0 : Heap) (n0 : Nat) (Z0 : n0 ≤ h0.size) (E0 : Exa Z h0 r0 "java/lang/String") (Fv : Fld Z h0 r0 "java/lang/String" "value" "[B" .null) (Fc : Fld Z h0 r0 "java/lang/String" "coder" "B" (.int (0 : Int32))) (Vs : Arv Z h0 r1 ks .char (3 : Int32) [(.int c0), (.int c1), (.int c2)] (.int (0 : Int32))) (O0 : Old Z n0 h0) (g_r0 : n0 ≤ r0) (hne : r0 ≠ r1) (hb0 : 0 ≤ c0.toInt ∧ c0.toInt ≤ 65535) (hb1 : 0 ≤ c1.toInt ∧ c1.toInt ≤ 65535) (hb2 : 0 ≤ c2.toInt ∧ c2.toInt ≤ 65535) (hp0 : ¬ ((255 : Int32) < c0)) (hp1 : ¬ ((255 : Int32) < c1)) (hp2 : ¬ ((255 : Int32) < c2)) (SS : Sts Z cst fv) :
  MetFree l (⟨"java/lang/String", "<init>", "([CIILjava/lang/Void;)V"⟩ : MethodName) (head1 (Jvm.Cond.code (⟨"java/lang/String", "<init>", "([CIILjava/lang/Void;)V"⟩ : MethodName) jdk_42_method_149_code 6 none :: ws) ({ frames := 2, cells := 1, slots := 3, locals := 35 } : Room)) (fun a U => a = #[(.ref r0), (.ref r1), (.int (0 : Int32)), (.int (3 : Int32)), .null] ∧ Z.Warmed39 U.vm ∧ U.heap = h0) (fun _ _ _ _ _ => True) (fun _ U o U' => ∃ v L, o = .returned v ∧ QSE_3 Z r0 r1 c0 c1 c2 ks cst fv h0 n0 v U'.heap L ∧ FrameEnd U o U' L ({ frames := 2, cells := 1, slots := 3, locals := 35 } : Room).cells ({ frames := 2, cells := 1, slots := 3, locals := 35 } : Room).slots) := by
 refine MetFree.of_bodySF (plainFor_of_name pnc_java_lang_String) hisR ?_
 intro p e s m args below meth c s₁ Bd hml0 hP hK
 obtain ⟨rfl, hZ, hh⟩ := hP
 have hx := Bd.exec
 have hby := Bd.bytes
 have hml : c.maxLocals = 6 := hml0
 have hown : s.vm.findClass "java/lang/String" = some m.cls := findClass_of_methodNamed Bd.named
 have hnm := (name_of_methodNamed Bd.named Bd.method).1
 have X0 : Stand p l e ({ frames := 2, cells := 1, slots := 3, locals := 35 } : Room) s m #[(.ref r0), (.ref r1), (.int (0 : Int32)), (.int (3 : Int32)), .null] below meth c s₁ [] 0 0 := Stand.of_body Bd
 have e0 : s₁.heap = h0 := by rw [← hh, Bd.state]; rfl
 have N0 := Fr.nil n0
 have kp0 : Keep h0 h0 [r0] := Keep.refl _ _
 have G0 : ∀ t, Steps p.tables e below (s₁.setTop (mkF m 0 #[rv r0, rv r1, iv 0, iv 3, .val .null, .unset] [])) t → Steps p.tables e below (s₁.setTop (entryFrame m #[(.ref r0), (.ref r1), (.int (0 : Int32)), (.int (3 : Int32)), .null] 6)) t := fun t k => castTop (ef_rmSE_3 m r0 r1 (0 : Int32) (3 : Int32)) k
 obtain ⟨T1, X1, e1, st1⟩ := initO X0 hx hZ hown (hq hw 11 rfl) (hq hw 12 rfl) (hq hw 13 rfl) e0 (g := (mkF m 1 #[rv r0, rv r1, iv 0, iv 3, .val .null, .unset] [(.ref r0)])) rfl (by rw [hml]; rfl) rfl (hb hby d2_1) (by decide) (W := 0) (by show 2 * 0 + _ ≤ _; exact Nat.le_of_eq rfl) (by decide)
 have G2 : ∀ t, Steps p.tables e below (T1.setTop (mkF m 5 #[rv r0, rv r1, iv 0, iv 3, .val .null, .unset] [(.int (3 : Int32))])) t → Steps p.tables e below (s₁.setTop (entryFrame m #[(.ref r0), (.ref r1), (.int (0 : Int32)), (.int (3 : Int32)), .null] 6)) t := by
  intro t kt
  refine G0 _ ?_
  refine XS.aloadN X0.here hx rfl (hb hby d2_0) rfl rfl ?_
  refine st1 _ ?_
  refine XS.iloadN X1.here hx rfl (hb hby d2_4) rfl ?_
  exact kt
 obtain ⟨T3, X3, e3, st3⟩ := getS2 X1 hx hZ hown (host := "") (Or.inl (hq hw 14 rfl)) Via.refl e1 (SS.1.ext O0.2) (g := (mkF m 27 #[rv r0, rv r1, iv 0, iv 3, .val .null, .unset] [])) rfl (hb hby d2_27)
 have G4 : ∀ t, Steps p.tables e below (T3.setTop (mkF m 30 #[rv r0, rv r1, iv 0, iv 3, .val .null, .unset] [(.int cst)])) t → Steps p.tables e below (s₁.setTop (entryFrame m #[(.ref r0), (.ref r1), (.int (0 : Int32)), (.int (3 : Int32)), .null] 6)) t := by
  intro t kt
  refine G2 _ ?_
  refine XS.ifYes X1.here hx rfl (pc0 := 5) (pc' := 27) rfl (hb hby d2_5) rfl ((if0 _ _).trans (feq (by decide)).2) (by decide) (by decide) ?_
  refine st3 _ ?_
  exact kt
 have hc30_5 : ¬ (cst = (0 : Int32)) := SS.2.1
 obtain ⟨_, _, ⟨T6, L6, k6, n6⟩, -, X6, ⟨Lc6, hQ6, l6, y6, z6⟩, st6⟩ := Jvm.LawKit.callS X3 hx (y := (⟨"java/lang/StringUTF16", "compress", "([CII)[B"⟩ : MethodName)) hown (mvT hZ (hq hw 15 rfl)) (mvT hZ (hq hw 16 rfl)) (mvT hZ (hq hw 17 rfl)) (mvT hZ (hq hw 18 rfl)) (by decide) (backOf (W := 0) (rmC3_3 l Z a0 hw [] r1 c0 c1 c2 ks cst fv h0 n0 Z0 Vs O0 hb0 hb1 hb2 hp0 hp1 hp2 SS) hZ (hq hw 18 rfl) (hq hw 17 rfl) (by decide) (by decide)) (g := (mkF m 36 #[rv r0, rv r1, iv 0, iv 3, .val .null, .unset] [(.int (3 : Int32)), (.int (0 : Int32)), (.ref r1)])) rfl (by rw [hml]; rfl) (argsL := [(.ref r1), (.int (0 : Int32)), (.int (3 : Int32))]) (rest := []) (lenOf pd_6 rfl) rfl (by show 2 * 0 + _ ≤ _; exact Nat.le_of_eq rfl) (hb hby d2_36) (fun _ _ => ⟨rfl, e3, (by decide : 0 + 1 ≤ _), (by decide : 0 + 3 ≤ _)⟩)
 dsimp only [Pt.U, Pt.locs, Pt.cells, Pt.slots] at X6 l6 y6 z6 st6 hQ6
 subst l6 y6 z6
 rcases hQ6 with ⟨b6, kb6, rfl, N6q, K6, g_b6, sz6, hq6, V6⟩
 ·skip
  have N6 := Fr.app N0 N6q
  have szk6 : h0.size ≤ b6 := Nat.le_trans kp0.1 sz6
  have ne_r0_b6 : r0 ≠ b6 := Nat.ne_of_lt (Nat.lt_of_lt_of_le E0.lt sz6)
  have ne_r1_b6 : r1 ≠ b6 := Nat.ne_of_lt (Nat.lt_of_lt_of_le Vs.lt sz6)
  have fa7 := E0.keep K6
  have fa8 := Fv.keep K6 nin0
  have fa9 := Fc.keep K6 nin0
  have fa10 := Vs.keep K6 nin0
  have fa11 := O0.keep K6 all0
  have z12 : n0 ≤ T6.heap.size := Nat.le_trans Z0 K6.1
  have kp13 : Keep h0 T6.heap [r0] := kp0.trans K6 all0
  obtain ⟨_, _, ⟨T14, L14, k14, n14⟩, -, X14, ⟨Lc14, hQ14, l14, y14, z14⟩, st14⟩ := Jvm.LawKit.callS X6 hx (y := (⟨"java/lang/StringUTF16", "coderFromArrayLen", "([BI)B"⟩ : MethodName)) hown (mvT hZ (hq hw 23 rfl)) (mvT hZ (hq hw 24 rfl)) (mvT hZ (hq hw 17 rfl)) (mvT hZ (hq hw 25 rfl)) (by decide) (backOf (W := 1) (rmCF_3_3 l Z a0 hw [] b6 kb6 [(.int (nar .byte (c0.toInt8.toInt32))), (.int (nar .byte (c1.toInt8.toInt32))), (.int (nar .byte (c2.toInt8.toInt32)))] T6.heap n0 z12 V6) hZ (hq hw 25 rfl) (hq hw 17 rfl) (by decide) (by decide)) (g := (mkF m 45 #[rv r0, rv r1, iv 0, iv 3, .val .null, rv b6] [(.int (3 : Int32)), (.ref b6), (.ref r0)])) rfl (by rw [hml]; rfl) (argsL := [(.ref b6), (.int (3 : Int32))]) (rest := [(.ref r0)]) (lenOf pd_7 rfl) rfl (by show 2 * 0 + _ ≤ _; exact Nat.le_of_eq rfl) (hb hby d2_45) (fun _ _ => ⟨rfl, rfl, (by decide : 1 + 0 ≤ _), (by decide : 3 + 0 ≤ _)⟩)
  dsimp only [Pt.U, Pt.locs, Pt.cells, Pt.slots] at X14 l14 y14 z14 st14 hQ14
  subst l14 y14 z14
  obtain ⟨rfl, N14q, eh14⟩ := hQ14
  have N14 := Fr.app N6 N14q
  obtain ⟨T15, h15, X15, e15, W15, st15⟩ := putFN X14 hx hZ hown (hq hw 26 rfl) Via.refl eh14 fa9 fa7 (Or.inr ⟨(hq hw 27 rfl), rfl, hnm⟩) (hq hw 2 rfl) (ty := .byte) (v' := (.int (0 : Int32))) (by decide) rfl (fits_nar_byte (0 : Int32)) (g := (mkF m 48 #[rv r0, rv r1, iv 0, iv 3, .val .null, rv b6] [(.int (0 : Int32)), (.ref r0)])) rfl rfl (hb hby d2_48)
  have fa16 := fa7.wr W15
  have fa17 := fa8.other W15 (Or.inr (slot_ne (Or.inr (hq hw 29 rfl)) (Or.inr (hq hw 27 rfl)) (by decide) (t := (.array .byte)) (t' := .byte) (by decide) (by decide)))
  have fa18 : Fld Z h15 r0 "java/lang/String" "coder" "B" (.int (0 : Int32)) := fa9.same W15
  have fa19 := fa10.other W15 (Ne.symm hne)
  have fa20 := fa11.wr W15 g_r0
  have fa21 := V6.other W15 (Ne.symm ne_r0_b6)
  have z22 : n0 ≤ h15.size := Nat.le_trans z12 (Nat.le_of_eq W15.size.symm)
  have kp23 : Keep h0 h15 [r0] := kp13.wr W15 (Or.inl (List.mem_of_getElem? (i := 0) rfl))
  have N15 := Fr.snoc X15 N14 g_r0
  obtain ⟨T24, h24, X24, e24, W24, st24⟩ := putF X15 hx hZ hown (host := "") (Or.inl (hq hw 28 rfl)) Via.refl e15 fa17 fa16 (Or.inr ⟨(hq hw 29 rfl), rfl, hnm⟩) (hq hw 2 rfl) (ty := (.array .byte)) (by decide) rfl rfl (g := (mkF m 54 #[rv r0, rv r1, iv 0, iv 3, .val .null, rv b6] [(.ref b6), (.ref r0)])) rfl rfl (hb hby d2_54)
  have fa25 := fa16.wr W24
  have fa26 : Fld Z h24 r0 "java/lang/String" "value" "[B" (.ref b6) := fa17.same W24
  have fa27 := fa18.other W24 (Or.inr (slot_ne (Or.inr (hq hw 27 rfl)) (Or.inr (hq hw 29 rfl)) (by decide) (t := .byte) (t' := (.array .byte)) (by decide) (by decide)))
  have fa28 := fa19.other W24 (Ne.symm hne)
  have fa29 := fa20.wr W24 g_r0
  have fa30 := fa21.other W24 (Ne.symm ne_r0_b6)
  have z31 : n0 ≤ h24.size := Nat.le_trans z22 (Nat.le_of_eq W24.size.symm)
  have kp32 : Keep h0 h24 [r0] := kp23.wr W24 (Or.inl (List.mem_of_getElem? (i := 0) rfl))
  have N24 := Fr.snoc X24 N15 g_r0
  obtain ⟨fs, hr, hrun, hended, hW, hsame⟩ := X24.leave (v := none) (fun _ => rfl)
  refine ⟨_, _, G4 _ ?_, hrun, hended, _, _, rfl, ?_, ⟨_, rfl⟩, hW, hsame.mono (by decide) (by decide)⟩
  ·skip
   refine XS.ifNo X3.here hx rfl (hb hby d2_30) rfl ((if0 _ _).trans (feq hc30_5).1) ?_
   refine XS.aloadN X3.here hx rfl (hb hby d2_33) rfl rfl ?_
   refine XS.iloadN X3.here hx rfl (hb hby d2_34) rfl ?_
   refine XS.iloadN X3.here hx rfl (hb hby d2_35) rfl ?_
   refine st6 _ ?_
   refine XS.astore X6.here hx rfl (hb hby d2_39) rfl rfl (l' := #[rv r0, rv r1, iv 0, iv 3, .val .null, rv b6]) rfl ?_
   refine XS.aloadN X6.here hx rfl (hb hby d2_41) rfl rfl ?_
   refine XS.aload X6.here hx rfl (hb hby d2_42) rfl rfl ?_
   refine XS.iloadN X6.here hx rfl (hb hby d2_44) rfl ?_
   refine st14 _ ?_
   refine st15 _ ?_
   refine XS.aloadN X15.here hx rfl (hb hby d2_51) rfl rfl ?_
   refine XS.aload X15.here hx rfl (hb hby d2_52) rfl rfl ?_
   refine st24 _ ?_
   exact X24.returnOut hx Bd.returns (hb hby d2_57) hr
  ·show QSE_3 Z r0 r1 c0 c1 c2 ks cst fv h0 n0 _ T24.heap _
   rw [e24]
   exact ⟨rfl, N24, kp32, fa25, hq6, fa27, b6, kb6, fa26, szk6, g_b6, fa30⟩
def QSF_3 (Z : State) (r0 : Addr) (r1 : Addr) (c0 c1 c2 : Int32) (ks : ClassId) (cst : Int32) (fv : Value) (h0 : Heap) (n0 : Nat) (v : Option Value) (h : Heap) (L : List Loc) : Prop := (v = none ∧ Fr n0 L ∧ Keep h0 h [r0] ∧ Exa Z h r0 "java/lang/String" ∧ (¬ ((255 : Int32) < c0) ∧ ¬ ((255 : Int32) < c1) ∧ ¬ ((255 : Int32) < c2)) ∧ Fld Z h r0 "java/lang/String" "coder" "B" (.int (0 : Int32)) ∧ ∃ (t : Addr) (k : ClassId), Fld Z h r0 "java/lang/String" "value" "[B" (.ref t) ∧ h0.size ≤ t ∧ n0 ≤ t ∧ Arv Z h t k .byte (3 : Int32) [(.int (nar .byte (c0.toInt8.toInt32))), (.int (nar .byte (c1.toInt8.toInt32))), (.int (nar .byte (c2.toInt8.toInt32)))] (.int (0 : Int32)))
theorem ef_rmSF_3 (m : MethodId) (x0 : Addr) (x1 : Addr) : entryFrame m #[(.ref x0), (.ref x1)] 2 = mkF m 0 #[.val (.ref x0), .val (.ref x1)] [] := by first | (simp [entryFrame, mkF, argsToLocals, Value.category]; done) | rfl
set_option maxRecDepth 65536 in
set_option maxHeartbeats 40000000 in
theorem rmSF_3 (l : Launch) (Z : State) (a0 : Array Value) (hw : ∀ d ∈ tables_1, d.before a0 Z = true) (ws : List Jvm.Cond) (r0 : Addr) (r1 : Addr) (c0 c1 c2 : Int32) (ks : ClassId) (cst : Int32) (fv : Value) (h0 : Heap) (n0 : Nat) (Z0 : n0 ≤ h0.size) (E0 : Exa Z h0 r0 "java/lang/String") (Fv : Fld Z h0 r0 "java/lang/String" "value" "[B" .null) (Fc : Fld Z h0 r0 "java/lang/String" "coder" "B" (.int (0 : Int32))) (Vs : Arv Z h0 r1 ks .char (3 : Int32) [(.int c0), (.int c1), (.int c2)] (.int (0 : Int32))) (O0 : Old Z n0 h0) (g_r0 : n0 ≤ r0) (hne : r0 ≠ r1) (hb0 : 0 ≤ c0.toInt ∧ c0.toInt ≤ 65535) (hb1 : 0 ≤ c1.toInt ∧ c1.toInt ≤ 65535) (hb2 : 0 ≤ c2.toInt ∧ c2.toInt ≤ 65535) (hp0 : ¬ ((255 : Int32) < c0)) (hp1 : ¬ ((255 : Int32) < c1)) (hp2 : ¬ ((255 : Int32) < c2)) (SS : Sts Z cst fv) :
  MetFree l (⟨"java/lang/String", "<init>", "([C)V"⟩ : MethodName) (head1 (Jvm.Cond.code (⟨"java/lang/String", "<init>", "([C)V"⟩ : MethodName) jdk_42_method_3_code 2 none :: ws) ({ frames := 3, cells := 1, slots := 3, locals := 52 } : Room)) (fun a U => a = #[(.ref r0), (.ref r1)] ∧ Z.Warmed39 U.vm ∧ U.heap = h0) (fun _ _ _ _ _ => True) (fun _ U o U' => ∃ v L, o = .returned v ∧ QSF_3 Z r0 r1 c0 c1 c2 ks cst fv h0 n0 v U'.heap L ∧ FrameEnd U o U' L ({ frames := 3, cells := 1, slots := 3, locals := 52 } : Room).cells ({ frames := 3, cells := 1, slots := 3, locals := 52 } : Room).slots) := by
 refine MetFree.of_bodySF (plainFor_of_name pnc_java_lang_String) hisR ?_
 intro p e s m args below meth c s₁ Bd hml0 hP hK
 obtain ⟨rfl, hZ, hh⟩ := hP
 have hx := Bd.exec
 have hby := Bd.bytes
 have hml : c.maxLocals = 2 := hml0
 have hown : s.vm.findClass "java/lang/String" = some m.cls := findClass_of_methodNamed Bd.named
 have hnm := (name_of_methodNamed Bd.named Bd.method).1
 have X0 : Stand p l e ({ frames := 3, cells := 1, slots := 3, locals := 52 } : Room) s m #[(.ref r0), (.ref r1)] below meth c s₁ [] 0 0 := Stand.of_body Bd
 have e0 : s₁.heap = h0 := by rw [← hh, Bd.state]; rfl
 have N0 := Fr.nil n0
 have kp0 : Keep h0 h0 [r0] := Keep.refl _ _
 have G0 : ∀ t, Steps p.tables e below (s₁.setTop (mkF m 0 #[rv r0, rv r1] [])) t → Steps p.tables e below (s₁.setTop (entryFrame m #[(.ref r0), (.ref r1)] 2)) t := fun t k => castTop (ef_rmSF_3 m r0 r1) k
 obtain ⟨cl1, Ar1, q1, S1, M1, H1, G1⟩ := id Vs
 obtain ⟨_, _, ⟨T2, L2, k2, n2⟩, -, X2, ⟨Lc2, hQ2, l2, y2, z2⟩, st2⟩ := X0.specialBack hx (y := (⟨"java/lang/String", "<init>", "([CIILjava/lang/Void;)V"⟩ : MethodName)) rfl hown (mvT hZ (hq hw 7 rfl)) (mvT hZ (hq hw 8 rfl)) (mvT hZ (hq hw 10 rfl)) (by decide) (backOf (W := 0) (rmSE_3 l Z a0 hw [] r0 r1 c0 c1 c2 ks cst fv h0 n0 Z0 E0 Fv Fc Vs O0 g_r0 hne hb0 hb1 hb2 hp0 hp1 hp2 SS) hZ (hq hw 10 rfl) (hq hw 3 rfl) (by decide) (by decide)) (g := (mkF m 6 #[rv r0, rv r1] [.null, (.int (3 : Int32)), (.int (0 : Int32)), (.ref r1), (.ref r0)])) rfl (by rw [hml]; rfl) (Steps.refl _) (a := r0) (argsL := [(.ref r1), (.int (0 : Int32)), (.int (3 : Int32)), .null]) (rest := []) (lenOf pd_8 rfl) rfl (by show 2 * 0 + _ ≤ _; exact Nat.le_of_eq rfl) (hb hby d1_6) (fun _ _ => ⟨rfl, e0, (by decide : 0 + 1 ≤ _), (by decide : 0 + 3 ≤ _)⟩)
 dsimp only [Pt.U, Pt.locs, Pt.cells, Pt.slots] at X2 l2 y2 z2 st2 hQ2
 subst l2 y2 z2
 rcases hQ2 with ⟨rfl, N2q, K2, A2, hq2, Fc2, ta2, kb2, Fv2, sz2, g_ta2, V2⟩
 ·skip
  have N2 := Fr.app N0 N2q
  have szk2 : h0.size ≤ ta2 := Nat.le_trans kp0.1 sz2
  have ne_r0_ta2 : r0 ≠ ta2 := Nat.ne_of_lt (Nat.lt_of_lt_of_le E0.lt sz2)
  have ne_r1_ta2 : r1 ≠ ta2 := Nat.ne_of_lt (Nat.lt_of_lt_of_le Vs.lt sz2)
  have fa3 := E0.keep K2
  have fa4 := Vs.keep K2 (ninS (Ne.symm hne) nin0)
  have fa5 := O0.keep K2 (allS g_r0 all0)
  have z6 : n0 ≤ T2.heap.size := Nat.le_trans Z0 K2.1
  have kp7 : Keep h0 T2.heap [r0] := kp0.trans K2 (allS (Or.inl (List.mem_of_getElem? (i := 0) rfl)) all0)
  obtain ⟨fs, hr, hrun, hended, hW, hsame⟩ := X2.leave (v := none) (fun _ => rfl)
  refine ⟨_, _, G0 _ ?_, hrun, hended, _, _, rfl, ?_, ⟨_, rfl⟩, hW, hsame.mono (by decide) (by decide)⟩
  ·skip
   refine XS.aloadN X0.here hx rfl (hb hby d1_0) rfl rfl ?_
   refine XS.aloadN X0.here hx rfl (hb hby d1_1) rfl rfl ?_
   refine XS.iconst X0.here hx rfl (hb hby d1_2) ?_
   refine XS.aloadN X0.here hx rfl (hb hby d1_3) rfl rfl ?_
   refine X0.arraylength hx (by rw [e0]; exact Ar1.1) (State.isArrayOf_alike hZ.alike Ar1.2.1) (g := (mkF m 4 #[rv r0, rv r1] [(.ref r1), (.int (0 : Int32)), (.ref r1), (.ref r0)])) rfl rfl (hb hby d1_4) _ ?_
   rw [len_of S1 M1]
   refine XS.aconstNull X0.here hx rfl (hb hby d1_5) ?_
   refine st2.trans ?_
   exact X2.returnOut hx Bd.returns (hb hby d1_9) hr
  ·show QSF_3 Z r0 r1 c0 c1 c2 ks cst fv h0 n0 _ T2.heap _
   exact ⟨rfl, N2, kp7, A2, hq2, Fc2, ta2, kb2, Fv2, szk2, g_ta2, V2⟩
theorem d2_8 : decode jdk_42_method_149_code 8 = .ok (.aload_n 0, 1) := by decide +kernel
theorem d2_9 : decode jdk_42_method_149_code 9 = .ok (.ldc 7, 2) := by decide +kernel
theorem own_satoms : ∀ d ∈ Bundle.stringAtoms, d ∈ tables_1 := by decide +kernel
theorem d2_11 : decode jdk_42_method_149_code 11 = .ok (.getfield 9, 3) := by decide +kernel
theorem d2_14 : decode jdk_42_method_149_code 14 = .ok (.putfield 9, 3) := by decide +kernel
theorem d2_17 : decode jdk_42_method_149_code 17 = .ok (.aload_n 0, 1) := by decide +kernel
theorem d2_18 : decode jdk_42_method_149_code 18 = .ok (.ldc 7, 2) := by decide +kernel
theorem d2_20 : decode jdk_42_method_149_code 20 = .ok (.getfield 15, 3) := by decide +kernel
theorem d2_23 : decode jdk_42_method_149_code 23 = .ok (.putfield 15, 3) := by decide +kernel
theorem d2_26 : decode jdk_42_method_149_code 26 = .ok (.return_, 1) := by decide +kernel
def QSE_0 (Z : State) (r0 : Addr) (r1 : Addr) (h0 : Heap) (n0 : Nat) (v : Option Value) (h : Heap) (L : List Loc) : Prop := v = none ∧ Fr n0 L ∧ Keep h0 h [r0] ∧ Exa Z h r0 "java/lang/String" ∧ Fld Z h r0 "java/lang/String" "coder" "B" (.int (0 : Int32)) ∧ ∃ (t : Addr) (k : ClassId), Fld Z h r0 "java/lang/String" "value" "[B" (.ref t) ∧ Arv Z h t k .byte (0 : Int32) [] (.int (0 : Int32))
theorem ef_rmSE_0 (m : MethodId) (x0 : Addr) (x1 : Addr) (x2 : Int32) (x3 : Int32) : entryFrame m #[(.ref x0), (.ref x1), (.int x2), (.int x3), .null] 6 = mkF m 0 #[.val (.ref x0), .val (.ref x1), .val (.int x2), .val (.int x3), .val .null, .unset] [] := by first | (simp [entryFrame, mkF, argsToLocals, Value.category]; done) | rfl
set_option maxRecDepth 65536 in
set_option maxHeartbeats 40000000 in
theorem rmSE_0 (l : Launch) (Z : State) (a0 : Array Value) (hw : ∀ d ∈ tables_1, d.before a0 Z = true) (ws : List Jvm.Cond) (r0 : Addr) (r1 : Addr) (h0 : Heap) (n0 : Nat) (Z0 : n0 ≤ h0.size) (E0 : Exa Z h0 r0 "java/lang/String") (Fv : Fld Z h0 r0 "java/lang/String" "value" "[B" .null) (Fc : Fld Z h0 r0 "java/lang/String" "coder" "B" (.int (0 : Int32))) (g_r0 : n0 ≤ r0) :
  MetFree l (⟨"java/lang/String", "<init>", "([CIILjava/lang/Void;)V"⟩ : MethodName) (head1 (Jvm.Cond.code (⟨"java/lang/String", "<init>", "([CIILjava/lang/Void;)V"⟩ : MethodName) jdk_42_method_149_code 6 none :: ws) ({ frames := 1, cells := 4, slots := 8, locals := 12 } : Room)) (fun a U => a = #[(.ref r0), (.ref r1), (.int (0 : Int32)), (.int (0 : Int32)), .null] ∧ Z.Warmed39 U.vm ∧ U.heap = h0 ∧ CHv Z own_EL U.vm h0) (fun _ _ _ _ _ => True) (fun _ U o U' => ∃ v L, o = .returned v ∧ QSE_0 Z r0 r1 h0 n0 v U'.heap L ∧ CHr Z own_EL U.vm U.heap U'.vm U'.heap ∧ ReturnedEndW U o U' L ({ frames := 1, cells := 4, slots := 8, locals := 12 } : Room).cells ({ frames := 1, cells := 4, slots := 8, locals := 12 } : Room).slots) := by
 refine MetFree.of_bodySF (plainFor_of_name pnc_java_lang_String) hisR ?_
 intro p e s m args below meth c s₁ Bd hml0 hP hK
 obtain ⟨rfl, hZ, hh, CH0⟩ := hP
 have hx := Bd.exec
 have hby := Bd.bytes
 have hml : c.maxLocals = 6 := hml0
 have hown : s.vm.findClass "java/lang/String" = some m.cls := findClass_of_methodNamed Bd.named
 have hnm := (name_of_methodNamed Bd.named Bd.method).1
 have X0 : Stand p l e ({ frames := 1, cells := 4, slots := 8, locals := 12 } : Room) s m #[(.ref r0), (.ref r1), (.int (0 : Int32)), (.int (0 : Int32)), .null] below meth c s₁ [] 0 0 := Stand.of_body Bd
 have e0 : s₁.heap = h0 := by rw [← hh, Bd.state]; rfl
 have N0 := Fr.nil n0
 have kp0 : Keep h0 h0 [r0] := Keep.refl _ _
 have G0 : ∀ t, Steps p.tables e below (s₁.setTop (mkF m 0 #[rv r0, rv r1, iv 0, iv 0, .val .null, .unset] [])) t → Steps p.tables e below (s₁.setTop (entryFrame m #[(.ref r0), (.ref r1), (.int (0 : Int32)), (.int (0 : Int32)), .null] 6)) t := fun t k => castTop (ef_rmSE_0 m r0 r1 (0 : Int32) (0 : Int32)) k
 have X0 : Stand p l e ({ frames := 1, cells := 4, slots := 8, locals := 12 } : Room) (s.setVm s.vm) m #[(.ref r0), (.ref r1), (.int (0 : Int32)), (.int (0 : Int32)), .null] below meth c s₁ [] 0 0 := X0
 have hZ : Z.Warmed39 (s.setVm s.vm).vm := hZ
 have hown : (s.setVm s.vm).vm.findClass "java/lang/String" = some m.cls := hown
 have hEL : EW Z a0 own_EL := own_ew hw
 have CR0 : CHr Z own_EL s.vm h0 s.vm h0 := CHr.refl CH0
 have sf0_r0 : Safe Z own_EL s.vm h0 r0 := own_safe_null hZ.alike E0 (hq hw 2 rfl) Fv
 have hS : s.Since s.vm 0 := (State.WarmedH.refl s).since 0
 have hk : 0 ≤ h0.size := Nat.zero_le _
 have G1 : ∀ t, Steps p.tables e below (s₁.setTop (mkF m 1 #[rv r0, rv r1, iv 0, iv 0, .val .null, .unset] [(.ref r0)])) t → Steps p.tables e below (s₁.setTop (entryFrame m #[(.ref r0), (.ref r1), (.int (0 : Int32)), (.int (0 : Int32)), .null] 6)) t := by
  intro t kt
  refine G0 _ ?_
  refine XS.aloadN X0.here hx rfl (hb hby d2_0) rfl rfl ?_
  exact kt
 obtain ⟨T2, X2, e2, st2⟩ := initO X0 hx hZ hown (hq hw 11 rfl) (hq hw 12 rfl) (hq hw 13 rfl) e0 (g := (mkF m 1 #[rv r0, rv r1, iv 0, iv 0, .val .null, .unset] [(.ref r0)])) rfl (by rw [hml]; rfl) rfl (hb hby d2_1) (by decide) (W := 0) (by show 2 * 0 + _ ≤ _; exact Nat.le_of_eq rfl) (by decide)
 have G3 : ∀ t, Steps p.tables e below (T2.setTop (mkF m 5 #[rv r0, rv r1, iv 0, iv 0, .val .null, .unset] [(.int (0 : Int32))])) t → Steps p.tables e below (s₁.setTop (entryFrame m #[(.ref r0), (.ref r1), (.int (0 : Int32)), (.int (0 : Int32)), .null] 6)) t := by
  intro t kt
  refine G1 _ ?_
  refine st2 _ ?_
  refine XS.iloadN X2.here hx rfl (hb hby d2_4) rfl ?_
  exact kt
 have G4 : ∀ t, Steps p.tables e below (T2.setTop (mkF m 9 #[rv r0, rv r1, iv 0, iv 0, .val .null, .unset] [(.ref r0)])) t → Steps p.tables e below (s₁.setTop (entryFrame m #[(.ref r0), (.ref r1), (.int (0 : Int32)), (.int (0 : Int32)), .null] 6)) t := by
  intro t kt
  refine G3 _ ?_
  refine XS.ifNo X2.here hx rfl (hb hby d2_5) rfl ((if0 _ _).trans (teq (by decide)).2) ?_
  refine XS.aloadN X2.here hx rfl (hb hby d2_8) rfl rfl ?_
  exact kt
 obtain ⟨a5, T5, h5, k5, bb5, kb5, X5, e5, E5, hS, hk, hZ, hown, A5, Fc5, Fv5, V5, -, -, C5, -, hne5, st5⟩ := ldcCH (s := s) X2 hx hZ hown (hq hw 30 rfl) (fun d hd => hw d (own_satoms d hd)) e2 hS hk hEL (List.mem_of_getElem? (i := 0) rfl) CH0 (z := (0 : Int32)) ⟨by decide, rfl⟩ (by decide) rfl (g := (mkF m 9 #[rv r0, rv r1, iv 0, iv 0, .val .null, .unset] [(.ref r0)])) rfl (hb hby d2_9) (n := 0) (by decide) (by decide) (by decide) (by decide)
 have fa6 := E0.ext E5
 have fa7 := Fv.ext E5
 have fa8 := Fc.ext E5
 have z9 : n0 ≤ h5.size := Nat.le_trans Z0 E5.1
 have kp10 : Keep h0 h5 [r0] := kp0.ext E5
 have cr11 := CR0.trans C5
 have ch11 := C5.1
 have sf11_r0 := C5.safe E0.lt sf0_r0
 have ne_r0_a5 := (hne5 r0 sf11_r0).1
 have ne_r0_bb5 := (hne5 r0 sf11_r0).2
 have fa12 : Arv Z h5 bb5 kb5 .byte (0 : Int32) [] (.int (0 : Int32)) := V5
 obtain ⟨T13, X13, e13, st13⟩ := getF X5 hx hZ hown (host := "") (Or.inl (hq hw 28 rfl)) Via.refl e5 Fv5 (g := (mkF m 11 #[rv r0, rv r1, iv 0, iv 0, .val .null, .unset] [(.ref a5), (.ref r0)])) rfl rfl (hb hby d2_11)
 obtain ⟨T14, h14, X14, e14, W14, st14⟩ := putF X13 hx hZ hown (host := "") (Or.inl (hq hw 28 rfl)) Via.refl e13 fa7 fa6 (Or.inr ⟨(hq hw 29 rfl), rfl, hnm⟩) (hq hw 2 rfl) (ty := (.array .byte)) (by decide) rfl rfl (g := (mkF m 14 #[rv r0, rv r1, iv 0, iv 0, .val .null, .unset] [(.ref bb5), (.ref r0)])) rfl rfl (hb hby d2_14)
 have ch15 : CHv Z own_EL T5.vm h14 := ch11.wr W14 sf11_r0
 have cr15 : CHr Z own_EL s.vm h0 T5.vm h14 := cr11.trans (CHr.wr W14 sf11_r0 ch11)
 have sf15_r0 : Safe Z own_EL T5.vm h14 r0 := Safe.wr W14 sf11_r0 ch11 sf11_r0
 have fa16 := fa6.wr W14
 have fa17 : Fld Z h14 r0 "java/lang/String" "value" "[B" (.ref bb5) := fa7.same W14
 have fa18 := fa8.other W14 (Or.inr (slot_ne (Or.inr (hq hw 27 rfl)) (Or.inr (hq hw 29 rfl)) (by decide) (t := .byte) (t' := (.array .byte)) (by decide) (by decide)))
 have fa19 := A5.wr W14
 have fa20 := Fc5.other W14 (Or.inl (Ne.symm ne_r0_a5))
 have fa21 := Fv5.other W14 (Or.inl (Ne.symm ne_r0_a5))
 have fa22 := fa12.other W14 (Ne.symm ne_r0_bb5)
 have z23 : n0 ≤ h14.size := Nat.le_trans z9 (Nat.le_of_eq W14.size.symm)
 have hk := Nat.le_trans hk (Nat.le_of_eq W14.size.symm)
 have kp24 : Keep h0 h14 [r0] := kp10.wr W14 (Or.inl (List.mem_of_getElem? (i := 0) rfl))
 have N14 := Fr.snoc X14 N0 g_r0
 have G25 : ∀ t, Steps p.tables e below (T14.setTop (mkF m 18 #[rv r0, rv r1, iv 0, iv 0, .val .null, .unset] [(.ref r0)])) t → Steps p.tables e below (s₁.setTop (entryFrame m #[(.ref r0), (.ref r1), (.int (0 : Int32)), (.int (0 : Int32)), .null] 6)) t := by
  intro t kt
  refine G4 _ ?_
  refine st5 _ ?_
  refine st13 _ ?_
  refine st14 _ ?_
  refine XS.aloadN X14.here hx rfl (hb hby d2_17) rfl rfl ?_
  exact kt
 obtain ⟨a26, T26, h26, k26, bb26, kb26, X26, e26, E26, hS, hk, hZ, hown, A26, Fc26, Fv26, V26, -, -, C26, -, hne26, st26⟩ := ldcCH (s := s) X14 hx hZ hown (hq hw 30 rfl) (fun d hd => hw d (own_satoms d hd)) e14 hS hk hEL (List.mem_of_getElem? (i := 0) rfl) ch15 (z := (0 : Int32)) ⟨by decide, rfl⟩ (by decide) rfl (g := (mkF m 18 #[rv r0, rv r1, iv 0, iv 0, .val .null, .unset] [(.ref r0)])) rfl (hb hby d2_18) (n := 0) (by decide) (by decide) (by decide) (by decide)
 have fa27 := fa16.ext E26
 have fa28 := fa17.ext E26
 have fa29 := fa18.ext E26
 have fa30 := fa19.ext E26
 have fa31 := fa20.ext E26
 have fa32 := fa21.ext E26
 have fa33 := fa22.ext E26
 have z34 : n0 ≤ h26.size := Nat.le_trans z23 E26.1
 have kp35 : Keep h0 h26 [r0] := kp24.ext E26
 have cr36 := cr15.trans C26
 have ch36 := C26.1
 have sf36_r0 := C26.safe fa16.lt sf15_r0
 have ne_r0_a26 := (hne26 r0 sf36_r0).1
 have ne_r0_bb26 := (hne26 r0 sf36_r0).2
 have fa37 : Arv Z h26 bb26 kb26 .byte (0 : Int32) [] (.int (0 : Int32)) := V26
 obtain ⟨T38, X38, e38, st38⟩ := getF X26 hx hZ hown (host := "") (Or.inl (hq hw 26 rfl)) Via.refl e26 Fc26 (g := (mkF m 20 #[rv r0, rv r1, iv 0, iv 0, .val .null, .unset] [(.ref a26), (.ref r0)])) rfl rfl (hb hby d2_20)
 obtain ⟨T39, h39, X39, e39, W39, st39⟩ := putFN X38 hx hZ hown (hq hw 26 rfl) Via.refl e38 fa29 fa27 (Or.inr ⟨(hq hw 27 rfl), rfl, hnm⟩) (hq hw 2 rfl) (ty := .byte) (v' := (.int (0 : Int32))) (by decide) rfl (fits_nar_byte (0 : Int32)) (g := (mkF m 23 #[rv r0, rv r1, iv 0, iv 0, .val .null, .unset] [(.int (0 : Int32)), (.ref r0)])) rfl rfl (hb hby d2_23)
 have ch40 : CHv Z own_EL T26.vm h39 := ch36.wr W39 sf36_r0
 have cr40 : CHr Z own_EL s.vm h0 T26.vm h39 := cr36.trans (CHr.wr W39 sf36_r0 ch36)
 have sf40_r0 : Safe Z own_EL T26.vm h39 r0 := Safe.wr W39 sf36_r0 ch36 sf36_r0
 have fa41 := fa27.wr W39
 have fa42 := fa28.other W39 (Or.inr (slot_ne (Or.inr (hq hw 29 rfl)) (Or.inr (hq hw 27 rfl)) (by decide) (t := (.array .byte)) (t' := .byte) (by decide) (by decide)))
 have fa43 : Fld Z h39 r0 "java/lang/String" "coder" "B" (.int (0 : Int32)) := fa29.same W39
 have fa44 := fa30.wr W39
 have fa45 := fa31.other W39 (Or.inl (Ne.symm ne_r0_a5))
 have fa46 := fa32.other W39 (Or.inl (Ne.symm ne_r0_a5))
 have fa47 := fa33.other W39 (Ne.symm ne_r0_bb5)
 have fa48 := A26.wr W39
 have fa49 := Fc26.other W39 (Or.inl (Ne.symm ne_r0_a26))
 have fa50 := Fv26.other W39 (Or.inl (Ne.symm ne_r0_a26))
 have fa51 := fa37.other W39 (Ne.symm ne_r0_bb26)
 have z52 : n0 ≤ h39.size := Nat.le_trans z34 (Nat.le_of_eq W39.size.symm)
 have hk := Nat.le_trans hk (Nat.le_of_eq W39.size.symm)
 have kp53 : Keep h0 h39 [r0] := kp35.wr W39 (Or.inl (List.mem_of_getElem? (i := 0) rfl))
 have N39 := Fr.snoc X39 N14 g_r0
 obtain ⟨fs, hr, hrun, hended, hRW⟩ := X39.leaveW (s := s) hS (by rw [show T39.heap = h39 from e39]; exact hk) (v := none) (fun _ => rfl) (BodyLoose.notSynchronized Bd)
 refine ⟨_, _, G25 _ ?_, hrun, hended, _, _, rfl, ?_, (show CHr Z own_EL s.vm s.heap T39.vm T39.heap from by rw [hh, show T39.heap = h39 from e39]; exact cr40.trans (CHv.at X39 hZ hEL ch40)), hRW.1, hRW.2.1, hRW.2.2.1, hRW.2.2.2.mono (by decide) (by decide)⟩
 ·skip
  refine st26 _ ?_
  refine st38 _ ?_
  refine st39 _ ?_
  exact X39.returnOut hx Bd.returns (hb hby d2_26) hr
 ·show QSE_0 Z r0 r1 h0 n0 _ T39.heap _
  rw [e39]
  exact ⟨rfl, N39, kp53, fa41, fa43, bb5, kb5, fa42, fa47⟩
def QSF_0 (Z : State) (r0 : Addr) (r1 : Addr) (ks : ClassId) (h0 : Heap) (n0 : Nat) (v : Option Value) (h : Heap) (L : List Loc) : Prop := v = none ∧ Fr n0 L ∧ Keep h0 h [r0] ∧ Exa Z h r0 "java/lang/String" ∧ Fld Z h r0 "java/lang/String" "coder" "B" (.int (0 : Int32)) ∧ ∃ (t : Addr) (k : ClassId), Fld Z h r0 "java/lang/String" "value" "[B" (.ref t) ∧ Arv Z h t k .byte (0 : Int32) [] (.int (0 : Int32))
theorem ef_rmSF_0 (m : MethodId) (x0 : Addr) (x1 : Addr) : entryFrame m #[(.ref x0), (.ref x1)] 2 = mkF m 0 #[.val (.ref x0), .val (.ref x1)] [] := by first | (simp [entryFrame, mkF, argsToLocals, Value.category]; done) | rfl
set_option maxRecDepth 65536 in
set_option maxHeartbeats 40000000 in
theorem rmSF_0 (l : Launch) (Z : State) (a0 : Array Value) (hw : ∀ d ∈ tables_1, d.before a0 Z = true) (ws : List Jvm.Cond) (r0 : Addr) (r1 : Addr) (ks : ClassId) (h0 : Heap) (n0 : Nat) (Z0 : n0 ≤ h0.size) (E0 : Exa Z h0 r0 "java/lang/String") (Fv : Fld Z h0 r0 "java/lang/String" "value" "[B" .null) (Fc : Fld Z h0 r0 "java/lang/String" "coder" "B" (.int (0 : Int32))) (Vs : Arv Z h0 r1 ks .char (0 : Int32) [] (.int (0 : Int32))) (g_r0 : n0 ≤ r0) (hne : r0 ≠ r1) :
  MetFree l (⟨"java/lang/String", "<init>", "([C)V"⟩ : MethodName) (head1 (Jvm.Cond.code (⟨"java/lang/String", "<init>", "([C)V"⟩ : MethodName) jdk_42_method_3_code 2 none :: ws) ({ frames := 2, cells := 4, slots := 8, locals := 29 } : Room)) (fun a U => a = #[(.ref r0), (.ref r1)] ∧ Z.Warmed39 U.vm ∧ U.heap = h0 ∧ CHv Z own_EL U.vm h0) (fun _ _ _ _ _ => True) (fun _ U o U' => ∃ v L, o = .returned v ∧ QSF_0 Z r0 r1 ks h0 n0 v U'.heap L ∧ CHr Z own_EL U.vm U.heap U'.vm U'.heap ∧ ReturnedEndW U o U' L ({ frames := 2, cells := 4, slots := 8, locals := 29 } : Room).cells ({ frames := 2, cells := 4, slots := 8, locals := 29 } : Room).slots) := by
 refine MetFree.of_bodySF (plainFor_of_name pnc_java_lang_String) hisR ?_
 intro p e s m args below meth c s₁ Bd hml0 hP hK
 obtain ⟨rfl, hZ, hh, CH0⟩ := hP
 have hx := Bd.exec
 have hby := Bd.bytes
 have hml : c.maxLocals = 2 := hml0
 have hown : s.vm.findClass "java/lang/String" = some m.cls := findClass_of_methodNamed Bd.named
 have hnm := (name_of_methodNamed Bd.named Bd.method).1
 have X0 : Stand p l e ({ frames := 2, cells := 4, slots := 8, locals := 29 } : Room) s m #[(.ref r0), (.ref r1)] below meth c s₁ [] 0 0 := Stand.of_body Bd
 have e0 : s₁.heap = h0 := by rw [← hh, Bd.state]; rfl
 have N0 := Fr.nil n0
 have kp0 : Keep h0 h0 [r0] := Keep.refl _ _
 have G0 : ∀ t, Steps p.tables e below (s₁.setTop (mkF m 0 #[rv r0, rv r1] [])) t → Steps p.tables e below (s₁.setTop (entryFrame m #[(.ref r0), (.ref r1)] 2)) t := fun t k => castTop (ef_rmSF_0 m r0 r1) k
 have X0 : Stand p l e ({ frames := 2, cells := 4, slots := 8, locals := 29 } : Room) (s.setVm s.vm) m #[(.ref r0), (.ref r1)] below meth c s₁ [] 0 0 := X0
 have hZ : Z.Warmed39 (s.setVm s.vm).vm := hZ
 have hown : (s.setVm s.vm).vm.findClass "java/lang/String" = some m.cls := hown
 have hEL : EW Z a0 own_EL := own_ew hw
 have CR0 : CHr Z own_EL s.vm h0 s.vm h0 := CHr.refl CH0
 have sf0_r0 : Safe Z own_EL s.vm h0 r0 := own_safe_null hZ.alike E0 (hq hw 2 rfl) Fv
 have hS : s.Since s.vm 0 := (State.WarmedH.refl s).since 0
 have hk : 0 ≤ h0.size := Nat.zero_le _
 obtain ⟨cl1, Ar1, q1, S1, M1, H1, G1⟩ := id Vs
 have G2 : ∀ t, Steps p.tables e below (s₁.setTop (mkF m 6 #[rv r0, rv r1] [.null, (.int (0 : Int32)), (.int (0 : Int32)), (.ref r1), (.ref r0)])) t → Steps p.tables e below (s₁.setTop (entryFrame m #[(.ref r0), (.ref r1)] 2)) t := by
  intro t kt
  refine G0 _ ?_
  refine XS.aloadN X0.here hx rfl (hb hby d1_0) rfl rfl ?_
  refine XS.aloadN X0.here hx rfl (hb hby d1_1) rfl rfl ?_
  refine XS.iconst X0.here hx rfl (hb hby d1_2) ?_
  refine XS.aloadN X0.here hx rfl (hb hby d1_3) rfl rfl ?_
  refine X0.arraylength hx (by rw [e0]; exact Ar1.1) (State.isArrayOf_alike hZ.alike Ar1.2.1) (g := (mkF m 4 #[rv r0, rv r1] [(.ref r1), (.int (0 : Int32)), (.ref r1), (.ref r0)])) rfl rfl (hb hby d1_4) _ ?_
  rw [len_of S1 M1]
  refine XS.aconstNull X0.here hx rfl (hb hby d1_5) ?_
  exact kt
 obtain ⟨_, vm3, ⟨T3, L3, k3, n3⟩, -, X3, hS3, gr3, ⟨Lc3, hQ3, l3, y3, z3, C3⟩, st3⟩ := X0.specialBackS hx (y := (⟨"java/lang/String", "<init>", "([CIILjava/lang/Void;)V"⟩ : MethodName)) rfl hown (mvT hZ (hq hw 7 rfl)) (mvT hZ (hq hw 8 rfl)) (mvT hZ (hq hw 10 rfl)) (by decide) (backOfSH (s := s) (vm0 := s.vm) (W := 0) (rmSE_0 l Z a0 hw [] r0 r1 h0 n0 Z0 E0 Fv Fc  g_r0) hZ (hq hw 10 rfl) (hq hw 3 rfl) (by decide) (by decide) hEL CH0) (g := (mkF m 6 #[rv r0, rv r1] [.null, (.int (0 : Int32)), (.int (0 : Int32)), (.ref r1), (.ref r0)])) rfl (by rw [hml]; rfl) (Steps.refl _) (a := r0) (argsL := [(.ref r1), (.int (0 : Int32)), (.int (0 : Int32)), .null]) (rest := []) (lenOf pd_8 rfl) rfl (by show 2 * 0 + _ ≤ _; exact Nat.le_of_eq rfl) (hb hby d1_6) (fun _ _ => ⟨rfl, e0, (by decide : 0 + 4 ≤ _), (by decide : 0 + 8 ≤ _)⟩)
 dsimp only [Pt.U, Pt.locs, Pt.cells, Pt.slots] at X3 l3 y3 z3 st3 hQ3 hS3 gr3 C3
 subst l3 y3 z3
 have hS := hS.trans hS3 (Nat.le_trans hk (by rw [← show s₁.heap = h0 from e0]; exact gr3))
 have hZ : Z.Warmed39 (s.setVm T3.vm).vm := State.Warmed39.trans hZ hS3.1
 have hown : (s.setVm T3.vm).vm.findClass "java/lang/String" = some m.cls := by rw [show (s.setVm T3.vm).vm = T3.vm from rfl, hS3.1.alike.findClass]; exact hown
 have X3 : Stand p l e ({ frames := 2, cells := 4, slots := 8, locals := 29 } : Room) (s.setVm T3.vm) m #[(.ref r0), (.ref r1)] below meth c T3 _ _ _ := X3
 have hk : T3.heap.size ≤ T3.heap.size := Nat.le_refl _
 have cr4 := CR0.trans C3
 have ch4 := C3.1
 have sf4_r0 := C3.safe E0.lt sf0_r0
 obtain ⟨rfl, N3q, K3, A3, Fc3, ta3, kb3, Fv3, V3⟩ := hQ3
 have N3 := Fr.app N0 N3q
 have fa5 := E0.keep K3
 have fa6 := Vs.keep K3 (ninS (Ne.symm hne) nin0)
 have z7 : n0 ≤ T3.heap.size := Nat.le_trans Z0 K3.1
 have kp8 : Keep h0 T3.heap [r0] := kp0.trans K3 (allS (Or.inl (List.mem_of_getElem? (i := 0) rfl)) all0)
 obtain ⟨fs, hr, hrun, hended, hRW⟩ := X3.leaveW (s := s) hS (by rw [show T3.heap = T3.heap from rfl]; exact hk) (v := none) (fun _ => rfl) (BodyLoose.notSynchronized Bd)
 refine ⟨_, _, G2 _ ?_, hrun, hended, _, _, rfl, ?_, (show CHr Z own_EL s.vm s.heap T3.vm T3.heap from by rw [hh, show T3.heap = T3.heap from rfl]; exact cr4.trans (CHv.at X3 hZ hEL ch4)), hRW.1, hRW.2.1, hRW.2.2.1, hRW.2.2.2.mono (by decide) (by decide)⟩
 ·skip
  refine st3.trans ?_
  exact X3.returnOut hx Bd.returns (hb hby d1_9) hr
 ·show QSF_0 Z r0 r1 ks h0 n0 _ T3.heap _
  exact ⟨rfl, N3, kp8, A3, Fc3, ta3, kb3, Fv3, V3⟩
theorem d9_0 : decode jdk_31_method_11_code 0 = .ok (.aload_n 0, 1) := by decide +kernel
theorem d9_1 : decode jdk_31_method_11_code 1 = .ok (.ifnonnull 12, 3) := by decide +kernel
theorem d9_13 : decode jdk_31_method_11_code 13 = .ok (.aload_n 0, 1) := by decide +kernel
theorem d9_14 : decode jdk_31_method_11_code 14 = .ok (.areturn, 1) := by decide +kernel
def Q9 (Z : State) (r0 : Addr) (r1 : Addr) (h0 : Heap) (n0 : Nat) (v : Option Value) (h : Heap) (L : List Loc) : Prop := v = some (.ref r0) ∧ Fr n0 L ∧ h = h0
theorem ef_rm9 (m : MethodId) (x0 : Addr) (x1 : Addr) : entryFrame m #[(.ref x0), (.ref x1)] 2 = mkF m 0 #[.val (.ref x0), .val (.ref x1)] [] := by first | (simp [entryFrame, mkF, argsToLocals, Value.category]; done) | rfl
theorem pnc_java_util_Objects : plainName "java/util/Objects" = true := by first | (simp [plainName, overriddenIn]; done) | decide +kernel
set_option maxRecDepth 65536 in
set_option maxHeartbeats 40000000 in
theorem rm9 (l : Launch) (Z : State) (a0 : Array Value) (hw : ∀ d ∈ tables_1, d.before a0 Z = true) (ws : List Jvm.Cond) (r0 : Addr) (r1 : Addr) (h0 : Heap) (n0 : Nat) (Z0 : n0 ≤ h0.size) :
  MetFree l (⟨"java/util/Objects", "requireNonNull", "(Ljava/lang/Object;Ljava/lang/String;)Ljava/lang/Object;"⟩ : MethodName) (head1 (Jvm.Cond.code (⟨"java/util/Objects", "requireNonNull", "(Ljava/lang/Object;Ljava/lang/String;)Ljava/lang/Object;"⟩ : MethodName) jdk_31_method_11_code 2 (some (.object "java/lang/Object")) :: ws) ({ frames := 0, cells := 0, slots := 0, locals := 0 } : Room)) (fun a U => a = #[(.ref r0), (.ref r1)] ∧ Z.Warmed39 U.vm ∧ U.heap = h0) (fun _ _ _ _ _ => True) (fun _ U o U' => ∃ v L, o = .returned v ∧ Q9 Z r0 r1 h0 n0 v U'.heap L ∧ FrameEnd U o U' L ({ frames := 0, cells := 0, slots := 0, locals := 0 } : Room).cells ({ frames := 0, cells := 0, slots := 0, locals := 0 } : Room).slots) := by
 refine MetFree.of_bodySF (plainFor_of_name pnc_java_util_Objects) hisR ?_
 intro p e s m args below meth c s₁ Bd hml0 hP hK
 obtain ⟨rfl, hZ, hh⟩ := hP
 have hx := Bd.exec
 have hby := Bd.bytes
 have hml : c.maxLocals = 2 := hml0
 have hown : s.vm.findClass "java/util/Objects" = some m.cls := findClass_of_methodNamed Bd.named
 have hnm := (name_of_methodNamed Bd.named Bd.method).1
 have X0 : Stand p l e ({ frames := 0, cells := 0, slots := 0, locals := 0 } : Room) s m #[(.ref r0), (.ref r1)] below meth c s₁ [] 0 0 := Stand.of_body Bd
 have e0 : s₁.heap = h0 := by rw [← hh, Bd.state]; rfl
 have N0 := Fr.nil n0
 have kp0 : Keep h0 h0 [] := Keep.refl _ _
 have G0 : ∀ t, Steps p.tables e below (s₁.setTop (mkF m 0 #[rv r0, rv r1] [])) t → Steps p.tables e below (s₁.setTop (entryFrame m #[(.ref r0), (.ref r1)] 2)) t := fun t k => castTop (ef_rm9 m r0 r1) k
 obtain ⟨fs, hr, hrun, hended, hW, hsame⟩ := X0.leave (v := some (.ref r0)) (fun h => by rw [Bd.returns] at h; cases h)
 refine ⟨_, _, G0 _ ?_, hrun, hended, _, _, rfl, ?_, ⟨_, rfl⟩, hW, hsame.mono (by decide) (by decide)⟩
 ·skip
  refine XS.aloadN X0.here hx rfl (hb hby d9_0) rfl rfl ?_
  refine XS.ifnonnullYes X0.here hx rfl (pc0 := 1) (pc' := 13) rfl (hb hby d9_1) rfl (by decide) (by decide) ?_
  refine XS.aloadN X0.here hx rfl (hb hby d9_13) rfl rfl ?_
  exact retOut X0 hx Bd.returns rfl (Or.inr (Or.inr (Or.inr (Or.inr ⟨rfl, rfl, rfl⟩)))) (hb hby d9_14) hr
 ·show Q9 Z r0 r1 h0 n0 _ s₁.heap _
  rw [e0]
  exact ⟨rfl, N0, rfl⟩
theorem d10_0 : decode jdk_42_method_55_code 0 = .ok (.aload_n 0, 1) := by decide +kernel
theorem d10_1 : decode jdk_42_method_55_code 1 = .ok (.getfield 9, 3) := by decide +kernel
theorem d10_4 : decode jdk_42_method_55_code 4 = .ok (.arraylength, 1) := by decide +kernel
theorem d10_5 : decode jdk_42_method_55_code 5 = .ok (.ifCond .ne 7, 3) := by decide +kernel
theorem d10_12 : decode jdk_42_method_55_code 12 = .ok (.iconst 0, 1) := by decide +kernel
theorem d10_13 : decode jdk_42_method_55_code 13 = .ok (.ireturn, 1) := by decide +kernel
def Q10 (Z : State) (r0 : Addr) (ta : Addr) (kk : ClassId) (nn : Int32) (vs : List Value) (h0 : Heap) (n0 : Nat) (v : Option Value) (h : Heap) (L : List Loc) : Prop := v = some (.int (0 : Int32)) ∧ Fr n0 L ∧ h = h0
theorem ef_rm10 (m : MethodId) (x0 : Addr) : entryFrame m #[(.ref x0)] 1 = mkF m 0 #[.val (.ref x0)] [] := by first | (simp [entryFrame, mkF, argsToLocals, Value.category]; done) | rfl
set_option maxRecDepth 65536 in
set_option maxHeartbeats 40000000 in
theorem rm10 (l : Launch) (Z : State) (a0 : Array Value) (hw : ∀ d ∈ tables_1, d.before a0 Z = true) (ws : List Jvm.Cond) (r0 : Addr) (ta : Addr) (kk : ClassId) (nn : Int32) (vs : List Value) (h0 : Heap) (n0 : Nat) (Z0 : n0 ≤ h0.size) (Fv : Fld Z h0 r0 "java/lang/String" "value" "[B" (.ref ta)) (V0 : Arv Z h0 ta kk .byte nn vs (.int (0 : Int32))) (hnz : ¬ (nn = (0 : Int32))) :
  MetFree l (⟨"java/lang/String", "isEmpty", "()Z"⟩ : MethodName) (head1 (Jvm.Cond.code (⟨"java/lang/String", "isEmpty", "()Z"⟩ : MethodName) jdk_42_method_55_code 1 (some .boolean) :: ws) ({ frames := 0, cells := 0, slots := 0, locals := 0 } : Room)) (fun a U => a = #[(.ref r0)] ∧ Z.Warmed39 U.vm ∧ U.heap = h0) (fun _ _ _ _ _ => True) (fun _ U o U' => ∃ v L, o = .returned v ∧ Q10 Z r0 ta kk nn vs h0 n0 v U'.heap L ∧ FrameEnd U o U' L ({ frames := 0, cells := 0, slots := 0, locals := 0 } : Room).cells ({ frames := 0, cells := 0, slots := 0, locals := 0 } : Room).slots) := by
 refine MetFree.of_bodySF (plainFor_of_name pnc_java_lang_String) hisR ?_
 intro p e s m args below meth c s₁ Bd hml0 hP hK
 obtain ⟨rfl, hZ, hh⟩ := hP
 have hx := Bd.exec
 have hby := Bd.bytes
 have hml : c.maxLocals = 1 := hml0
 have hown : s.vm.findClass "java/lang/String" = some m.cls := findClass_of_methodNamed Bd.named
 have hnm := (name_of_methodNamed Bd.named Bd.method).1
 have X0 : Stand p l e ({ frames := 0, cells := 0, slots := 0, locals := 0 } : Room) s m #[(.ref r0)] below meth c s₁ [] 0 0 := Stand.of_body Bd
 have e0 : s₁.heap = h0 := by rw [← hh, Bd.state]; rfl
 have N0 := Fr.nil n0
 have kp0 : Keep h0 h0 [] := Keep.refl _ _
 have G0 : ∀ t, Steps p.tables e below (s₁.setTop (mkF m 0 #[rv r0] [])) t → Steps p.tables e below (s₁.setTop (entryFrame m #[(.ref r0)] 1)) t := fun t k => castTop (ef_rm10 m r0) k
 obtain ⟨T1, X1, e1, st1⟩ := getF X0 hx hZ hown (host := "") (Or.inl (hq hw 28 rfl)) Via.refl e0 Fv (g := (mkF m 1 #[rv r0] [(.ref r0)])) rfl rfl (hb hby d10_1)
 obtain ⟨cl2, Ar2, q2, S2, M2, H2, G2⟩ := id V0
 have G3 : ∀ t, Steps p.tables e below (T1.setTop (mkF m 5 #[rv r0] [(.int nn)])) t → Steps p.tables e below (s₁.setTop (entryFrame m #[(.ref r0)] 1)) t := by
  intro t kt
  refine G0 _ ?_
  refine XS.aloadN X0.here hx rfl (hb hby d10_0) rfl rfl ?_
  refine st1 _ ?_
  refine X1.arraylength hx (by rw [e1]; exact Ar2.1) (State.isArrayOf_alike hZ.alike Ar2.2.1) (g := (mkF m 4 #[rv r0] [(.ref ta)])) rfl rfl (hb hby d10_4) _ ?_
  rw [len_of S2 M2]
  exact kt
 have hc5_4 : ¬ (nn = (0 : Int32)) := hnz
 obtain ⟨fs, hr, hrun, hended, hW, hsame⟩ := X1.leave (v := some (.int (0 : Int32))) (fun h => by rw [Bd.returns] at h; cases h)
 refine ⟨_, _, G3 _ ?_, hrun, hended, _, _, rfl, ?_, ⟨_, rfl⟩, hW, hsame.mono (by decide) (by decide)⟩
 ·skip
  refine XS.ifYes X1.here hx rfl (pc0 := 5) (pc' := 12) rfl (hb hby d10_5) rfl ((if0 _ _).trans (feq hc5_4).2) (by decide) (by decide) ?_
  refine XS.iconst X1.here hx rfl (hb hby d10_12) ?_
  exact retN X1 hx (t := .boolean) Bd.returns (by simp) (hb hby d10_13) hr
 ·show Q10 Z r0 ta kk nn vs h0 n0 _ T1.heap _
  rw [e1]
  exact ⟨rfl, N0, rfl⟩
theorem d8_0 : decode jdk_30_method_1_code 0 = .ok (.aload_n 0, 1) := by decide +kernel
theorem d8_1 : decode jdk_30_method_1_code 1 = .ok (.invokespecial 1, 3) := by decide +kernel
theorem d8_4 : decode jdk_30_method_1_code 4 = .ok (.return_, 1) := by decide +kernel
def Q8 (Z : State) (r0 : Addr) (h0 : Heap) (n0 : Nat) (v : Option Value) (h : Heap) (L : List Loc) : Prop := v = none ∧ Fr n0 L ∧ h = h0
theorem ef_rm8 (m : MethodId) (x0 : Addr) : entryFrame m #[(.ref x0)] 1 = mkF m 0 #[.val (.ref x0)] [] := by first | (simp [entryFrame, mkF, argsToLocals, Value.category]; done) | rfl
theorem pnc_java_lang_Record : plainName "java/lang/Record" = true := by first | (simp [plainName, overriddenIn]; done) | decide +kernel
set_option maxRecDepth 65536 in
set_option maxHeartbeats 40000000 in
theorem rm8 (l : Launch) (Z : State) (a0 : Array Value) (hw : ∀ d ∈ tables_1, d.before a0 Z = true) (ws : List Jvm.Cond) (r0 : Addr) (h0 : Heap) (n0 : Nat) (Z0 : n0 ≤ h0.size) :
  MetFree l (⟨"java/lang/Record", "<init>", "()V"⟩ : MethodName) (head1 (Jvm.Cond.code (⟨"java/lang/Record", "<init>", "()V"⟩ : MethodName) jdk_30_method_1_code 1 none :: ws) ({ frames := 1, cells := 0, slots := 0, locals := 12 } : Room)) (fun a U => a = #[(.ref r0)] ∧ Z.Warmed39 U.vm ∧ U.heap = h0) (fun _ _ _ _ _ => True) (fun _ U o U' => ∃ v L, o = .returned v ∧ Q8 Z r0 h0 n0 v U'.heap L ∧ FrameEnd U o U' L ({ frames := 1, cells := 0, slots := 0, locals := 12 } : Room).cells ({ frames := 1, cells := 0, slots := 0, locals := 12 } : Room).slots) := by
 refine MetFree.of_bodySF (plainFor_of_name pnc_java_lang_Record) hisR ?_
 intro p e s m args below meth c s₁ Bd hml0 hP hK
 obtain ⟨rfl, hZ, hh⟩ := hP
 have hx := Bd.exec
 have hby := Bd.bytes
 have hml : c.maxLocals = 1 := hml0
 have hown : s.vm.findClass "java/lang/Record" = some m.cls := findClass_of_methodNamed Bd.named
 have hnm := (name_of_methodNamed Bd.named Bd.method).1
 have X0 : Stand p l e ({ frames := 1, cells := 0, slots := 0, locals := 12 } : Room) s m #[(.ref r0)] below meth c s₁ [] 0 0 := Stand.of_body Bd
 have e0 : s₁.heap = h0 := by rw [← hh, Bd.state]; rfl
 have N0 := Fr.nil n0
 have kp0 : Keep h0 h0 [] := Keep.refl _ _
 have G0 : ∀ t, Steps p.tables e below (s₁.setTop (mkF m 0 #[rv r0] [])) t → Steps p.tables e below (s₁.setTop (entryFrame m #[(.ref r0)] 1)) t := fun t k => castTop (ef_rm8 m r0) k
 obtain ⟨T1, X1, e1, st1⟩ := initO X0 hx hZ hown (hq hw 44 rfl) (hq hw 12 rfl) (hq hw 13 rfl) e0 (g := (mkF m 1 #[rv r0] [(.ref r0)])) rfl (by rw [hml]; rfl) rfl (hb hby d8_1) (by decide) (W := 0) (by show 2 * 0 + _ ≤ _; exact Nat.le_of_eq rfl) (by decide)
 obtain ⟨fs, hr, hrun, hended, hW, hsame⟩ := X1.leave (v := none) (fun _ => rfl)
 refine ⟨_, _, G0 _ ?_, hrun, hended, _, _, rfl, ?_, ⟨_, rfl⟩, hW, hsame.mono (by decide) (by decide)⟩
 ·skip
  refine XS.aloadN X0.here hx rfl (hb hby d8_0) rfl rfl ?_
  refine st1 _ ?_
  exact X1.returnOut hx Bd.returns (hb hby d8_4) hr
 ·show Q8 Z r0 h0 n0 _ T1.heap _
  rw [e1]
  exact ⟨rfl, N0, rfl⟩
theorem d7_0 : decode prog_13_method_1_code 0 = .ok (.aload_n 0, 1) := by decide +kernel
theorem d7_1 : decode prog_13_method_1_code 1 = .ok (.invokespecial 1, 3) := by decide +kernel
theorem pd_9 : parseMethodDescriptor "()V" = some ⟨[], none⟩ := by decide +kernel
theorem d7_4 : decode prog_13_method_1_code 4 = .ok (.aload_n 1, 1) := by decide +kernel
theorem d7_5 : decode prog_13_method_1_code 5 = .ok (.ldc 7, 2) := by decide +kernel
theorem d7_7 : decode prog_13_method_1_code 7 = .ok (.invokestatic 9, 3) := by decide +kernel
theorem pd_10 : parseMethodDescriptor "(Ljava/lang/Object;Ljava/lang/String;)Ljava/lang/Object;" = some ⟨[(.object "java/lang/Object"), (.object "java/lang/String")], some (.object "java/lang/Object")⟩ := by decide +kernel
theorem d7_10 : decode prog_13_method_1_code 10 = .ok (.pop, 1) := by decide +kernel
theorem d7_11 : decode prog_13_method_1_code 11 = .ok (.aload_n 2, 1) := by decide +kernel
theorem d7_12 : decode prog_13_method_1_code 12 = .ok (.ldc 15, 2) := by decide +kernel
theorem d7_14 : decode prog_13_method_1_code 14 = .ok (.invokestatic 9, 3) := by decide +kernel
theorem d7_17 : decode prog_13_method_1_code 17 = .ok (.pop, 1) := by decide +kernel
theorem d7_18 : decode prog_13_method_1_code 18 = .ok (.aload_n 1, 1) := by decide +kernel
theorem d7_19 : decode prog_13_method_1_code 19 = .ok (.invokevirtual 17, 3) := by decide +kernel
theorem d7_22 : decode prog_13_method_1_code 22 = .ok (.ifCond .eq 13, 3) := by decide +kernel
theorem d7_35 : decode prog_13_method_1_code 35 = .ok (.aload_n 0, 1) := by decide +kernel
theorem d7_36 : decode prog_13_method_1_code 36 = .ok (.aload_n 1, 1) := by decide +kernel
theorem d7_37 : decode prog_13_method_1_code 37 = .ok (.putfield 30, 3) := by decide +kernel
theorem d7_40 : decode prog_13_method_1_code 40 = .ok (.aload_n 0, 1) := by decide +kernel
theorem d7_41 : decode prog_13_method_1_code 41 = .ok (.aload_n 2, 1) := by decide +kernel
theorem d7_42 : decode prog_13_method_1_code 42 = .ok (.putfield 35, 3) := by decide +kernel
theorem d7_45 : decode prog_13_method_1_code 45 = .ok (.return_, 1) := by decide +kernel
def Q7 (Z : State) (r0 : Addr) (r1 : Addr) (r2 : Addr) (ta : Addr) (kk : ClassId) (nn : Int32) (vs : List Value) (h0 : Heap) (n0 : Nat) (v : Option Value) (h : Heap) (L : List Loc) : Prop := v = none ∧ Fr n0 L ∧ Keep h0 h [r0] ∧ Fld Z h r0 "com/example/fides/fides/RecordId" "table" "Ljava/lang/String;" (.ref r1) ∧ Fld Z h r0 "com/example/fides/fides/RecordId" "key" "Ljava/lang/String;" (.ref r2)
theorem ef_rm7 (m : MethodId) (x0 : Addr) (x1 : Addr) (x2 : Addr) : entryFrame m #[(.ref x0), (.ref x1), (.ref x2)] 3 = mkF m 0 #[.val (.ref x0), .val (.ref x1), .val (.ref x2)] [] := by first | (simp [entryFrame, mkF, argsToLocals, Value.category]; done) | rfl
theorem pnc_com_example_fides_fides_RecordId : plainName "com/example/fides/fides/RecordId" = true := by first | (simp [plainName, overriddenIn]; done) | decide +kernel
set_option maxRecDepth 65536 in
set_option maxHeartbeats 40000000 in
theorem rm7 (l : Launch) (Z : State) (a0 : Array Value) (hw : ∀ d ∈ tables_1, d.before a0 Z = true) (ws : List Jvm.Cond) (r0 : Addr) (r1 : Addr) (r2 : Addr) (ta : Addr) (kk : ClassId) (nn : Int32) (vs : List Value) (h0 : Heap) (n0 : Nat) (Z0 : n0 ≤ h0.size) (E0 : Exa Z h0 r0 "com/example/fides/fides/RecordId") (Ft : Fld Z h0 r0 "com/example/fides/fides/RecordId" "table" "Ljava/lang/String;" .null) (Fk : Fld Z h0 r0 "com/example/fides/fides/RecordId" "key" "Ljava/lang/String;" .null) (Ey : Exa Z h0 r1 "java/lang/String") (Fv : Fld Z h0 r1 "java/lang/String" "value" "[B" (.ref ta)) (V0 : Arv Z h0 ta kk .byte nn vs (.int (0 : Int32))) (g_r0 : n0 ≤ r0) (dq_01 : r0 ≠ r1) (dq_0a : r0 ≠ ta) (hnz : ¬ (nn = (0 : Int32))) :
  MetFree l (⟨"com/example/fides/fides/RecordId", "<init>", "(Ljava/lang/String;Ljava/lang/String;)V"⟩ : MethodName) (head1 (Jvm.Cond.code (⟨"com/example/fides/fides/RecordId", "<init>", "(Ljava/lang/String;Ljava/lang/String;)V"⟩ : MethodName) prog_13_method_1_code 3 none :: ws) ({ frames := 2, cells := 4, slots := 40, locals := 24 } : Room)) (fun a U => a = #[(.ref r0), (.ref r1), (.ref r2)] ∧ Z.Warmed39 U.vm ∧ U.heap = h0 ∧ CHv Z own_EL U.vm h0) (fun _ _ _ _ _ => True) (fun _ U o U' => ∃ v L, o = .returned v ∧ Q7 Z r0 r1 r2 ta kk nn vs h0 n0 v U'.heap L ∧ CHr Z own_EL U.vm U.heap U'.vm U'.heap ∧ ReturnedEndW U o U' L ({ frames := 2, cells := 4, slots := 40, locals := 24 } : Room).cells ({ frames := 2, cells := 4, slots := 40, locals := 24 } : Room).slots) := by
 refine MetFree.of_bodySF (plainFor_of_name pnc_com_example_fides_fides_RecordId) hisR ?_
 intro p e s m args below meth c s₁ Bd hml0 hP hK
 obtain ⟨rfl, hZ, hh, CH0⟩ := hP
 have hx := Bd.exec
 have hby := Bd.bytes
 have hml : c.maxLocals = 3 := hml0
 have hown : s.vm.findClass "com/example/fides/fides/RecordId" = some m.cls := findClass_of_methodNamed Bd.named
 have hnm := (name_of_methodNamed Bd.named Bd.method).1
 have X0 : Stand p l e ({ frames := 2, cells := 4, slots := 40, locals := 24 } : Room) s m #[(.ref r0), (.ref r1), (.ref r2)] below meth c s₁ [] 0 0 := Stand.of_body Bd
 have e0 : s₁.heap = h0 := by rw [← hh, Bd.state]; rfl
 have N0 := Fr.nil n0
 have kp0 : Keep h0 h0 [r0] := Keep.refl _ _
 have G0 : ∀ t, Steps p.tables e below (s₁.setTop (mkF m 0 #[rv r0, rv r1, rv r2] [])) t → Steps p.tables e below (s₁.setTop (entryFrame m #[(.ref r0), (.ref r1), (.ref r2)] 3)) t := fun t k => castTop (ef_rm7 m r0 r1 r2) k
 have X0 : Stand p l e ({ frames := 2, cells := 4, slots := 40, locals := 24 } : Room) (s.setVm s.vm) m #[(.ref r0), (.ref r1), (.ref r2)] below meth c s₁ [] 0 0 := X0
 have hZ : Z.Warmed39 (s.setVm s.vm).vm := hZ
 have hown : (s.setVm s.vm).vm.findClass "com/example/fides/fides/RecordId" = some m.cls := hown
 have hEL : EW Z a0 own_EL := own_ew hw
 have CR0 : CHr Z own_EL s.vm h0 s.vm h0 := CHr.refl CH0
 have sf0_r0 : Safe Z own_EL s.vm h0 r0 := Safe.exa hZ.alike E0 (by decide) (by decide)
 have hS : s.Since s.vm 0 := (State.WarmedH.refl s).since 0
 have hk : 0 ≤ h0.size := Nat.zero_le _
 have G1 : ∀ t, Steps p.tables e below (s₁.setTop (mkF m 1 #[rv r0, rv r1, rv r2] [(.ref r0)])) t → Steps p.tables e below (s₁.setTop (entryFrame m #[(.ref r0), (.ref r1), (.ref r2)] 3)) t := by
  intro t kt
  refine G0 _ ?_
  refine XS.aloadN X0.here hx rfl (hb hby d7_0) rfl rfl ?_
  exact kt
 obtain ⟨_, _, ⟨T2, L2, k2, n2⟩, -, X2, ⟨Lc2, hQ2, l2, y2, z2⟩, st2⟩ := X0.specialBack hx (y := (⟨"java/lang/Record", "<init>", "()V"⟩ : MethodName)) rfl hown (mvT hZ (hq hw 39 rfl)) (mvT hZ (hq hw 40 rfl)) (mvT hZ (hq hw 43 rfl)) (by decide) (backOf (W := 0) (rm8 l Z a0 hw [] r0  h0 n0 Z0 ) hZ (hq hw 43 rfl) (hq hw 42 rfl) (by decide) (by decide)) (g := (mkF m 1 #[rv r0, rv r1, rv r2] [(.ref r0)])) rfl (by rw [hml]; rfl) (Steps.refl _) (a := r0) (argsL := []) (rest := []) (lenOf pd_9 rfl) rfl (by show 2 * 0 + _ ≤ _; exact Nat.le_of_eq rfl) (hb hby d7_1) (fun _ _ => ⟨rfl, e0, (by decide : 0 + 0 ≤ _), (by decide : 0 + 0 ≤ _)⟩)
 dsimp only [Pt.U, Pt.locs, Pt.cells, Pt.slots] at X2 l2 y2 z2 st2 hQ2
 subst l2 y2 z2
 obtain ⟨rfl, N2q, eh2⟩ := hQ2
 have N2 := Fr.app N0 N2q
 have G3 : ∀ t, Steps p.tables e below (T2.setTop (mkF m 5 #[rv r0, rv r1, rv r2] [(.ref r1)])) t → Steps p.tables e below (s₁.setTop (entryFrame m #[(.ref r0), (.ref r1), (.ref r2)] 3)) t := by
  intro t kt
  refine G1 _ ?_
  refine st2.trans ?_
  refine XS.aloadN X2.here hx rfl (hb hby d7_4) rfl rfl ?_
  exact kt
 obtain ⟨a4, T4, h4, k4, X4, e4, E4, hS, hk, hZ, hown, C4, -, st4⟩ := ldcOH (s := s) X2 hx hZ hown (hq hw 45 rfl) (fun d hd => hw d (own_satoms d hd)) eh2 hS hk hEL CH0 (g := (mkF m 5 #[rv r0, rv r1, rv r2] [(.ref r1)])) rfl (hb hby d7_5) (n := 20) (by decide) (by decide) (by decide) (by decide)
 have fa5 := E0.ext E4
 have fa6 := Ft.ext E4
 have fa7 := Fk.ext E4
 have fa8 := Ey.ext E4
 have fa9 := Fv.ext E4
 have fa10 := V0.ext E4
 have z11 : n0 ≤ h4.size := Nat.le_trans Z0 E4.1
 have kp12 : Keep h0 h4 [r0] := kp0.ext E4
 have cr13 := CR0.trans C4
 have ch13 := C4.1
 have sf13_r0 := C4.safe E0.lt sf0_r0
 have G14 : ∀ t, Steps p.tables e below (T4.setTop (mkF m 7 #[rv r0, rv r1, rv r2] [(.ref a4), (.ref r1)])) t → Steps p.tables e below (s₁.setTop (entryFrame m #[(.ref r0), (.ref r1), (.ref r2)] 3)) t := by
  intro t kt
  refine G3 _ ?_
  refine st4 _ ?_
  exact kt
 obtain ⟨_, _, ⟨T15, L15, k15, n15⟩, -, X15, ⟨Lc15, hQ15, l15, y15, z15⟩, st15⟩ := Jvm.LawKit.callS X4 hx (y := (⟨"java/util/Objects", "requireNonNull", "(Ljava/lang/Object;Ljava/lang/String;)Ljava/lang/Object;"⟩ : MethodName)) hown (mvT hZ (hq hw 46 rfl)) (mvT hZ (hq hw 47 rfl)) (mvT hZ (hq hw 48 rfl)) (mvT hZ (hq hw 49 rfl)) (by decide) (backOf (W := 0) (rm9 l Z a0 hw [] r1 a4  h4 n0 z11 ) hZ (hq hw 49 rfl) (hq hw 48 rfl) (by decide) (by decide)) (g := (mkF m 7 #[rv r0, rv r1, rv r2] [(.ref a4), (.ref r1)])) rfl (by rw [hml]; rfl) (argsL := [(.ref r1), (.ref a4)]) (rest := []) (lenOf pd_10 rfl) rfl (by show 2 * 0 + _ ≤ _; exact Nat.le_of_eq rfl) (hb hby d7_7) (fun _ _ => ⟨rfl, e4, (by decide : 2 + 0 ≤ _), (by decide : 24 + 0 ≤ _)⟩)
 dsimp only [Pt.U, Pt.locs, Pt.cells, Pt.slots] at X15 l15 y15 z15 st15 hQ15
 subst l15 y15 z15
 obtain ⟨rfl, N15q, eh15⟩ := hQ15
 have N15 := Fr.app N2 N15q
 have G16 : ∀ t, Steps p.tables e below (T15.setTop (mkF m 12 #[rv r0, rv r1, rv r2] [(.ref r2)])) t → Steps p.tables e below (s₁.setTop (entryFrame m #[(.ref r0), (.ref r1), (.ref r2)] 3)) t := by
  intro t kt
  refine G14 _ ?_
  refine st15 _ ?_
  refine XS.pop X15.here hx rfl (hb hby d7_10) rfl rfl ?_
  refine XS.aloadN X15.here hx rfl (hb hby d7_11) rfl rfl ?_
  exact kt
 obtain ⟨a17, T17, h17, k17, X17, e17, E17, hS, hk, hZ, hown, C17, -, st17⟩ := ldcOH (s := s) X15 hx hZ hown (hq hw 50 rfl) (fun d hd => hw d (own_satoms d hd)) eh15 hS hk hEL ch13 (g := (mkF m 12 #[rv r0, rv r1, rv r2] [(.ref r2)])) rfl (hb hby d7_12) (n := 12) (by decide) (by decide) (by decide) (by decide)
 have fa18 := fa5.ext E17
 have fa19 := fa6.ext E17
 have fa20 := fa7.ext E17
 have fa21 := fa8.ext E17
 have fa22 := fa9.ext E17
 have fa23 := fa10.ext E17
 have z24 : n0 ≤ h17.size := Nat.le_trans z11 E17.1
 have kp25 : Keep h0 h17 [r0] := kp12.ext E17
 have cr26 := cr13.trans C17
 have ch26 := C17.1
 have sf26_r0 := C17.safe fa5.lt sf13_r0
 have G27 : ∀ t, Steps p.tables e below (T17.setTop (mkF m 14 #[rv r0, rv r1, rv r2] [(.ref a17), (.ref r2)])) t → Steps p.tables e below (s₁.setTop (entryFrame m #[(.ref r0), (.ref r1), (.ref r2)] 3)) t := by
  intro t kt
  refine G16 _ ?_
  refine st17 _ ?_
  exact kt
 obtain ⟨_, _, ⟨T28, L28, k28, n28⟩, -, X28, ⟨Lc28, hQ28, l28, y28, z28⟩, st28⟩ := Jvm.LawKit.callS X17 hx (y := (⟨"java/util/Objects", "requireNonNull", "(Ljava/lang/Object;Ljava/lang/String;)Ljava/lang/Object;"⟩ : MethodName)) hown (mvT hZ (hq hw 46 rfl)) (mvT hZ (hq hw 47 rfl)) (mvT hZ (hq hw 48 rfl)) (mvT hZ (hq hw 49 rfl)) (by decide) (backOf (W := 0) (rm9 l Z a0 hw [] r2 a17  h17 n0 z24 ) hZ (hq hw 49 rfl) (hq hw 48 rfl) (by decide) (by decide)) (g := (mkF m 14 #[rv r0, rv r1, rv r2] [(.ref a17), (.ref r2)])) rfl (by rw [hml]; rfl) (argsL := [(.ref r2), (.ref a17)]) (rest := []) (lenOf pd_10 rfl) rfl (by show 2 * 0 + _ ≤ _; exact Nat.le_of_eq rfl) (hb hby d7_14) (fun _ _ => ⟨rfl, e17, (by decide : 4 + 0 ≤ _), (by decide : 40 + 0 ≤ _)⟩)
 dsimp only [Pt.U, Pt.locs, Pt.cells, Pt.slots] at X28 l28 y28 z28 st28 hQ28
 subst l28 y28 z28
 obtain ⟨rfl, N28q, eh28⟩ := hQ28
 have N28 := Fr.app N15 N28q
 have G29 : ∀ t, Steps p.tables e below (T28.setTop (mkF m 19 #[rv r0, rv r1, rv r2] [(.ref r1)])) t → Steps p.tables e below (s₁.setTop (entryFrame m #[(.ref r0), (.ref r1), (.ref r2)] 3)) t := by
  intro t kt
  refine G27 _ ?_
  refine st28 _ ?_
  refine XS.pop X28.here hx rfl (hb hby d7_17) rfl rfl ?_
  refine XS.aloadN X28.here hx rfl (hb hby d7_18) rfl rfl ?_
  exact kt
 obtain ⟨cq30, kq30, q30a, q30b, q30c⟩ := isOf hZ eh28 fa21
 obtain ⟨_, _, ⟨T30, L30, k30, n30⟩, -, X30, ⟨Lc30, hQ30, l30, y30, z30⟩, st30⟩ := X28.virtualBack hx (y := (⟨"java/lang/String", "isEmpty", "()Z"⟩ : MethodName)) (z := (⟨"java/lang/String", "isEmpty", "()Z"⟩ : MethodName)) hown (mvT hZ (hq hw 51 rfl)) (mvT hZ (hq hw 52 rfl)) (notFace_of_selects (args := #[]) (mvT hZ (hq hw 54 rfl))) (mvT hZ (hq hw 54 rfl)) (mvT hZ (hq hw 53 rfl)) (by decide) (backOf (W := 0) (rm10 l Z a0 hw [] r1 ta kk nn vs h17 n0 z24 fa22 fa23 hnz) hZ (hq hw 55 rfl) (hq hw 3 rfl) (by decide) (by decide)) q30a q30c (g := (mkF m 19 #[rv r0, rv r1, rv r2] [(.ref r1)])) rfl (by rw [hml]; rfl) (Steps.refl _) (argsL := []) (rest := []) (lenOf pd_3 rfl) rfl (by show 2 * 0 + _ ≤ _; exact Nat.le_of_eq rfl) (hb hby d7_19) (fun _ _ => ⟨rfl, eh28, (by decide : 4 + 0 ≤ _), (by decide : 40 + 0 ≤ _)⟩)
 dsimp only [Pt.U, Pt.locs, Pt.cells, Pt.slots] at X30 l30 y30 z30 st30 hQ30
 subst l30 y30 z30
 obtain ⟨rfl, N30q, eh30⟩ := hQ30
 have N30 := Fr.app N28 N30q
 have G31 : ∀ t, Steps p.tables e below (T30.setTop (mkF m 22 #[rv r0, rv r1, rv r2] [(.int (0 : Int32))])) t → Steps p.tables e below (s₁.setTop (entryFrame m #[(.ref r0), (.ref r1), (.ref r2)] 3)) t := by
  intro t kt
  refine G29 _ ?_
  refine st30.trans ?_
  exact kt
 obtain ⟨T32, h32, X32, e32, W32, st32⟩ := putF X30 hx hZ hown (host := "") (Or.inl (hq hw 56 rfl)) Via.refl eh30 fa19 fa18 (Or.inr ⟨(hq hw 57 rfl), rfl, hnm⟩) (hq hw 34 rfl) (ty := (.object "java/lang/String")) (by decide) rfl rfl (g := (mkF m 37 #[rv r0, rv r1, rv r2] [(.ref r1), (.ref r0)])) rfl rfl (hb hby d7_37)
 have ch33 : CHv Z own_EL T17.vm h32 := ch26.wr W32 sf26_r0
 have cr33 : CHr Z own_EL s.vm h0 T17.vm h32 := cr26.trans (CHr.wr W32 sf26_r0 ch26)
 have sf33_r0 : Safe Z own_EL T17.vm h32 r0 := Safe.wr W32 sf26_r0 ch26 sf26_r0
 have fa34 := fa18.wr W32
 have fa35 : Fld Z h32 r0 "com/example/fides/fides/RecordId" "table" "Ljava/lang/String;" (.ref r1) := fa19.same W32
 have fa36 := fa20.other W32 (Or.inr (slot_ne (Or.inr (hq hw 59 rfl)) (Or.inr (hq hw 57 rfl)) (by decide) (t := (.object "java/lang/String")) (t' := (.object "java/lang/String")) (by decide) (by decide)))
 have fa37 := fa21.wr W32
 have fa38 := fa22.other W32 (Or.inl (Ne.symm dq_01))
 have fa39 := fa23.other W32 (Ne.symm dq_0a)
 have z40 : n0 ≤ h32.size := Nat.le_trans z24 (Nat.le_of_eq W32.size.symm)
 have hk := Nat.le_trans hk (Nat.le_of_eq W32.size.symm)
 have kp41 : Keep h0 h32 [r0] := kp25.wr W32 (Or.inl (List.mem_of_getElem? (i := 0) rfl))
 have N32 := Fr.snoc X32 N30 g_r0
 obtain ⟨T42, h42, X42, e42, W42, st42⟩ := putF X32 hx hZ hown (host := "") (Or.inl (hq hw 58 rfl)) Via.refl e32 fa36 fa34 (Or.inr ⟨(hq hw 59 rfl), rfl, hnm⟩) (hq hw 34 rfl) (ty := (.object "java/lang/String")) (by decide) rfl rfl (g := (mkF m 42 #[rv r0, rv r1, rv r2] [(.ref r2), (.ref r0)])) rfl rfl (hb hby d7_42)
 have ch43 : CHv Z own_EL T17.vm h42 := ch33.wr W42 sf33_r0
 have cr43 : CHr Z own_EL s.vm h0 T17.vm h42 := cr33.trans (CHr.wr W42 sf33_r0 ch33)
 have sf43_r0 : Safe Z own_EL T17.vm h42 r0 := Safe.wr W42 sf33_r0 ch33 sf33_r0
 have fa44 := fa34.wr W42
 have fa45 := fa35.other W42 (Or.inr (slot_ne (Or.inr (hq hw 57 rfl)) (Or.inr (hq hw 59 rfl)) (by decide) (t := (.object "java/lang/String")) (t' := (.object "java/lang/String")) (by decide) (by decide)))
 have fa46 : Fld Z h42 r0 "com/example/fides/fides/RecordId" "key" "Ljava/lang/String;" (.ref r2) := fa36.same W42
 have fa47 := fa37.wr W42
 have fa48 := fa38.other W42 (Or.inl (Ne.symm dq_01))
 have fa49 := fa39.other W42 (Ne.symm dq_0a)
 have z50 : n0 ≤ h42.size := Nat.le_trans z40 (Nat.le_of_eq W42.size.symm)
 have hk := Nat.le_trans hk (Nat.le_of_eq W42.size.symm)
 have kp51 : Keep h0 h42 [r0] := kp41.wr W42 (Or.inl (List.mem_of_getElem? (i := 0) rfl))
 have N42 := Fr.snoc X42 N32 g_r0
 obtain ⟨fs, hr, hrun, hended, hRW⟩ := X42.leaveW (s := s) hS (by rw [show T42.heap = h42 from e42]; exact hk) (v := none) (fun _ => rfl) (BodyLoose.notSynchronized Bd)
 refine ⟨_, _, G31 _ ?_, hrun, hended, _, _, rfl, ?_, (show CHr Z own_EL s.vm s.heap T42.vm T42.heap from by rw [hh, show T42.heap = h42 from e42]; exact cr43.trans (CHv.at X42 hZ hEL ch43)), hRW.1, hRW.2.1, hRW.2.2.1, hRW.2.2.2.mono (by decide) (by decide)⟩
 ·skip
  refine XS.ifYes X30.here hx rfl (pc0 := 22) (pc' := 35) rfl (hb hby d7_22) rfl ((if0 _ _).trans (teq (by decide)).1) (by decide) (by decide) ?_
  refine XS.aloadN X30.here hx rfl (hb hby d7_35) rfl rfl ?_
  refine XS.aloadN X30.here hx rfl (hb hby d7_36) rfl rfl ?_
  refine st32 _ ?_
  refine XS.aloadN X32.here hx rfl (hb hby d7_40) rfl rfl ?_
  refine XS.aloadN X32.here hx rfl (hb hby d7_41) rfl rfl ?_
  refine st42 _ ?_
  exact X42.returnOut hx Bd.returns (hb hby d7_45) hr
 ·show Q7 Z r0 r1 r2 ta kk nn vs h0 n0 _ T42.heap _
  rw [e42]
  exact ⟨rfl, N42, kp51, fa45, fa46⟩
def own_z16 : List Value := [(.int (0 : Int32)), (.int (0 : Int32)), (.int (0 : Int32)), (.int (0 : Int32)), (.int (0 : Int32)), (.int (0 : Int32)), (.int (0 : Int32)), (.int (0 : Int32)), (.int (0 : Int32)), (.int (0 : Int32)), (.int (0 : Int32)), (.int (0 : Int32)), (.int (0 : Int32)), (.int (0 : Int32)), (.int (0 : Int32)), (.int (0 : Int32))]
theorem d13_0 : decode jdk_68_method_2_code 0 = .ok (.aload_n 0, 1) := by decide +kernel
theorem d13_1 : decode jdk_68_method_2_code 1 = .ok (.invokespecial 3, 3) := by decide +kernel
theorem d13_4 : decode jdk_68_method_2_code 4 = .ok (.getstatic 18, 3) := by decide +kernel
theorem d13_7 : decode jdk_68_method_2_code 7 = .ok (.ifCond .eq 18, 3) := by decide +kernel
theorem d13_10 : decode jdk_68_method_2_code 10 = .ok (.aload_n 0, 1) := by decide +kernel
theorem d13_11 : decode jdk_68_method_2_code 11 = .ok (.iload_n 1, 1) := by decide +kernel
theorem d13_12 : decode jdk_68_method_2_code 12 = .ok (.newarray .byte, 2) := by decide +kernel
theorem d13_14 : decode jdk_68_method_2_code 14 = .ok (.putfield 15, 3) := by decide +kernel
theorem d13_17 : decode jdk_68_method_2_code 17 = .ok (.aload_n 0, 1) := by decide +kernel
theorem d13_18 : decode jdk_68_method_2_code 18 = .ok (.iconst 0, 1) := by decide +kernel
theorem d13_19 : decode jdk_68_method_2_code 19 = .ok (.putfield 22, 3) := by decide +kernel
theorem d13_22 : decode jdk_68_method_2_code 22 = .ok (.goto 16, 3) := by decide +kernel
theorem d13_38 : decode jdk_68_method_2_code 38 = .ok (.return_, 1) := by decide +kernel
def Q13 (Z : State) (r0 : Addr) (cst : Int32) (fv : Value) (h0 : Heap) (n0 : Nat) (v : Option Value) (h : Heap) (L : List Loc) : Prop := v = none ∧ Fr n0 L ∧ Keep h0 h [r0] ∧ Fld Z h r0 "java/lang/AbstractStringBuilder" "count" "I" (.int (0 : Int32)) ∧ Fld Z h r0 "java/lang/AbstractStringBuilder" "coder" "B" (.int (0 : Int32)) ∧ ∃ (t : Addr) (k : ClassId), Fld Z h r0 "java/lang/AbstractStringBuilder" "value" "[B" (.ref t) ∧ h0.size ≤ t ∧ n0 ≤ t ∧ Arv Z h t k .byte (16 : Int32) own_z16 (.int (0 : Int32))
theorem ef_rm13 (m : MethodId) (x0 : Addr) (x1 : Int32) : entryFrame m #[(.ref x0), (.int x1)] 2 = mkF m 0 #[.val (.ref x0), .val (.int x1)] [] := by first | (simp [entryFrame, mkF, argsToLocals, Value.category]; done) | rfl
theorem pnc_java_lang_AbstractStringBuilder : plainName "java/lang/AbstractStringBuilder" = true := by first | (simp [plainName, overriddenIn]; done) | decide +kernel
set_option maxRecDepth 65536 in
set_option maxHeartbeats 40000000 in
theorem rm13 (l : Launch) (Z : State) (a0 : Array Value) (hw : ∀ d ∈ tables_1, d.before a0 Z = true) (ws : List Jvm.Cond) (r0 : Addr) (cst : Int32) (fv : Value) (h0 : Heap) (n0 : Nat) (Z0 : n0 ≤ h0.size) (E0 : Exa Z h0 r0 "java/lang/StringBuilder") (Fn : Fld Z h0 r0 "java/lang/AbstractStringBuilder" "count" "I" (.int (0 : Int32))) (Fc : Fld Z h0 r0 "java/lang/AbstractStringBuilder" "coder" "B" (.int (0 : Int32))) (Fv : Fld Z h0 r0 "java/lang/AbstractStringBuilder" "value" "[B" .null) (O0 : Old Z n0 h0) (g_r0 : n0 ≤ r0) (SS : Sts Z cst fv) :
  MetFree l (⟨"java/lang/AbstractStringBuilder", "<init>", "(I)V"⟩ : MethodName) (head1 (Jvm.Cond.code (⟨"java/lang/AbstractStringBuilder", "<init>", "(I)V"⟩ : MethodName) jdk_68_method_2_code 2 none :: ws) ({ frames := 1, cells := 1, slots := 16, locals := 12 } : Room)) (fun a U => a = #[(.ref r0), (.int (16 : Int32))] ∧ Z.Warmed39 U.vm ∧ U.heap = h0) (fun _ _ _ _ _ => True) (fun _ U o U' => ∃ v L, o = .returned v ∧ Q13 Z r0 cst fv h0 n0 v U'.heap L ∧ FrameEnd U o U' L ({ frames := 1, cells := 1, slots := 16, locals := 12 } : Room).cells ({ frames := 1, cells := 1, slots := 16, locals := 12 } : Room).slots) := by
 refine MetFree.of_bodySF (plainFor_of_name pnc_java_lang_AbstractStringBuilder) hisR ?_
 intro p e s m args below meth c s₁ Bd hml0 hP hK
 obtain ⟨rfl, hZ, hh⟩ := hP
 have hx := Bd.exec
 have hby := Bd.bytes
 have hml : c.maxLocals = 2 := hml0
 have hown : s.vm.findClass "java/lang/AbstractStringBuilder" = some m.cls := findClass_of_methodNamed Bd.named
 have hnm := (name_of_methodNamed Bd.named Bd.method).1
 have X0 : Stand p l e ({ frames := 1, cells := 1, slots := 16, locals := 12 } : Room) s m #[(.ref r0), (.int (16 : Int32))] below meth c s₁ [] 0 0 := Stand.of_body Bd
 have e0 : s₁.heap = h0 := by rw [← hh, Bd.state]; rfl
 have N0 := Fr.nil n0
 have kp0 : Keep h0 h0 [r0] := Keep.refl _ _
 have G0 : ∀ t, Steps p.tables e below (s₁.setTop (mkF m 0 #[rv r0, iv 16] [])) t → Steps p.tables e below (s₁.setTop (entryFrame m #[(.ref r0), (.int (16 : Int32))] 2)) t := fun t k => castTop (ef_rm13 m r0 (16 : Int32)) k
 obtain ⟨T1, X1, e1, st1⟩ := initO X0 hx hZ hown (hq hw 77 rfl) (hq hw 12 rfl) (hq hw 13 rfl) e0 (g := (mkF m 1 #[rv r0, iv 16] [(.ref r0)])) rfl (by rw [hml]; rfl) rfl (hb hby d13_1) (by decide) (W := 0) (by show 2 * 0 + _ ≤ _; exact Nat.le_of_eq rfl) (by decide)
 obtain ⟨T2, X2, e2, st2⟩ := getS2 X1 hx hZ hown (host := "") (Or.inl (hq hw 78 rfl)) Via.refl e1 (SS.1.ext O0.2) (g := (mkF m 4 #[rv r0, iv 16] [])) rfl (hb hby d13_4)
 have G3 : ∀ t, Steps p.tables e below (T2.setTop (mkF m 7 #[rv r0, iv 16] [(.int cst)])) t → Steps p.tables e below (s₁.setTop (entryFrame m #[(.ref r0), (.int (16 : Int32))] 2)) t := by
  intro t kt
  refine G0 _ ?_
  refine XS.aloadN X0.here hx rfl (hb hby d13_0) rfl rfl ?_
  refine st1 _ ?_
  refine st2 _ ?_
  exact kt
 have hc7_4 : ¬ (cst = (0 : Int32)) := SS.2.1
 obtain ⟨T5, h5, k5, X5, e5, E5, A5, st5⟩ := newP X2 hx hZ (hq hw 19 rfl) e2 (g := (mkF m 12 #[rv r0, iv 16] [(.int (16 : Int32)), (.ref r0)])) rfl (hb hby d13_12) rfl (by decide) (cap := 16) (by decide) (by decide) (by decide) (by decide)
 obtain ⟨b5, g5⟩ : ∃ z, z = h0.size := ⟨_, rfl⟩
 rw [← g5] at A5 st5
 have g_b5 : n0 ≤ b5 := Nat.le_trans Z0 (Nat.le_of_eq g5.symm)
 have sz_b5 : h0.size ≤ b5 := Nat.le_trans kp0.1 (Nat.le_of_eq g5.symm)
 have ne_r0_b5 : r0 ≠ b5 := Nat.ne_of_lt (Nat.lt_of_lt_of_le E0.lt (Nat.le_of_eq g5.symm))
 have fa6 := E0.ext E5
 have fa7 := Fn.ext E5
 have fa8 := Fc.ext E5
 have fa9 := Fv.ext E5
 have fa10 := O0.ext E5
 have z11 : n0 ≤ h5.size := Nat.le_trans Z0 E5.1
 have kp12 : Keep h0 h5 [r0] := kp0.ext E5
 have fa13 : Arv Z h5 b5 k5 .byte (16 : Int32) [(.int (0 : Int32)), (.int (0 : Int32)), (.int (0 : Int32)), (.int (0 : Int32)), (.int (0 : Int32)), (.int (0 : Int32)), (.int (0 : Int32)), (.int (0 : Int32)), (.int (0 : Int32)), (.int (0 : Int32)), (.int (0 : Int32)), (.int (0 : Int32)), (.int (0 : Int32)), (.int (0 : Int32)), (.int (0 : Int32)), (.int (0 : Int32))] (.int (0 : Int32)) := (Arv.new A5 (by decide)).pad (pad_rep [] (.int (0 : Int32)) 16)
 obtain ⟨T14, h14, X14, e14, W14, st14⟩ := putF X5 hx hZ hown (host := "") (Or.inl (hq hw 79 rfl)) Via.refl e5 fa9 fa6 (Or.inl (hq hw 80 rfl)) (hq hw 66 rfl) (ty := (.array .byte)) (by decide) rfl rfl (g := (mkF m 14 #[rv r0, iv 16] [(.ref b5), (.ref r0)])) rfl rfl (hb hby d13_14)
 have fa15 := fa6.wr W14
 have fa16 := fa7.other W14 (Or.inr (slot_ne (Or.inl (hq hw 104 rfl)) (Or.inl (hq hw 80 rfl)) (by decide) (t := .int) (t' := (.array .byte)) (by decide) (by decide)))
 have fa17 := fa8.other W14 (Or.inr (slot_ne (Or.inl (hq hw 82 rfl)) (Or.inl (hq hw 80 rfl)) (by decide) (t := .byte) (t' := (.array .byte)) (by decide) (by decide)))
 have fa18 : Fld Z h14 r0 "java/lang/AbstractStringBuilder" "value" "[B" (.ref b5) := fa9.same W14
 have fa19 := fa10.wr W14 g_r0
 have fa20 := fa13.other W14 (Ne.symm ne_r0_b5)
 have z21 : n0 ≤ h14.size := Nat.le_trans z11 (Nat.le_of_eq W14.size.symm)
 have kp22 : Keep h0 h14 [r0] := kp12.wr W14 (Or.inl (List.mem_of_getElem? (i := 0) rfl))
 have N14 := Fr.snoc X14 N0 g_r0
 obtain ⟨T23, h23, X23, e23, W23, st23⟩ := putFN X14 hx hZ hown (hq hw 81 rfl) Via.refl e14 fa17 fa15 (Or.inl (hq hw 82 rfl)) (hq hw 66 rfl) (ty := .byte) (v' := (.int (0 : Int32))) (by decide) rfl (fits_nar_byte (0 : Int32)) (g := (mkF m 19 #[rv r0, iv 16] [(.int (0 : Int32)), (.ref r0)])) rfl rfl (hb hby d13_19)
 have fa24 := fa15.wr W23
 have fa25 := fa16.other W23 (Or.inr (slot_ne (Or.inl (hq hw 104 rfl)) (Or.inl (hq hw 82 rfl)) (by decide) (t := .int) (t' := .byte) (by decide) (by decide)))
 have fa26 : Fld Z h23 r0 "java/lang/AbstractStringBuilder" "coder" "B" (.int (0 : Int32)) := fa17.same W23
 have fa27 := fa18.other W23 (Or.inr (slot_ne (Or.inl (hq hw 80 rfl)) (Or.inl (hq hw 82 rfl)) (by decide) (t := (.array .byte)) (t' := .byte) (by decide) (by decide)))
 have fa28 := fa19.wr W23 g_r0
 have fa29 := fa20.other W23 (Ne.symm ne_r0_b5)
 have z30 : n0 ≤ h23.size := Nat.le_trans z21 (Nat.le_of_eq W23.size.symm)
 have kp31 : Keep h0 h23 [r0] := kp22.wr W23 (Or.inl (List.mem_of_getElem? (i := 0) rfl))
 have N23 := Fr.snoc X23 N14 g_r0
 obtain ⟨fs, hr, hrun, hended, hW, hsame⟩ := X23.leave (v := none) (fun _ => rfl)
 refine ⟨_, _, G3 _ ?_, hrun, hended, _, _, rfl, ?_, ⟨_, rfl⟩, hW, hsame.mono (by decide) (by decide)⟩
 ·skip
  refine XS.ifNo X2.here hx rfl (hb hby d13_7) rfl ((if0 _ _).trans (feq hc7_4).1) ?_
  refine XS.aloadN X2.here hx rfl (hb hby d13_10) rfl rfl ?_
  refine XS.iloadN X2.here hx rfl (hb hby d13_11) rfl ?_
  refine st5 _ ?_
  refine st14 _ ?_
  refine XS.aloadN X14.here hx rfl (hb hby d13_17) rfl rfl ?_
  refine XS.iconst X14.here hx rfl (hb hby d13_18) ?_
  refine st23 _ ?_
  refine XS.goto X23.here hx rfl (pc0 := 22) (pc' := 38) rfl (hb hby d13_22) (by decide) (by decide) ?_
  exact X23.returnOut hx Bd.returns (hb hby d13_38) hr
 ·show Q13 Z r0 cst fv h0 n0 _ T23.heap _
  rw [e23]
  exact ⟨rfl, N23, kp31, fa25, fa26, b5, k5, fa27, sz_b5, g_b5, fa29⟩
theorem d12_0 : decode jdk_67_method_1_code 0 = .ok (.aload_n 0, 1) := by decide +kernel
theorem d12_1 : decode jdk_67_method_1_code 1 = .ok (.bipush 16, 2) := by decide +kernel
theorem d12_3 : decode jdk_67_method_1_code 3 = .ok (.invokespecial 1, 3) := by decide +kernel
theorem pd_11 : parseMethodDescriptor "(I)V" = some ⟨[.int], none⟩ := by decide +kernel
theorem d12_6 : decode jdk_67_method_1_code 6 = .ok (.return_, 1) := by decide +kernel
def Q12 (Z : State) (r0 : Addr) (cst : Int32) (fv : Value) (h0 : Heap) (n0 : Nat) (v : Option Value) (h : Heap) (L : List Loc) : Prop := v = none ∧ Fr n0 L ∧ Keep h0 h [r0] ∧ Fld Z h r0 "java/lang/AbstractStringBuilder" "count" "I" (.int (0 : Int32)) ∧ Fld Z h r0 "java/lang/AbstractStringBuilder" "coder" "B" (.int (0 : Int32)) ∧ ∃ (t : Addr) (k : ClassId), Fld Z h r0 "java/lang/AbstractStringBuilder" "value" "[B" (.ref t) ∧ h0.size ≤ t ∧ n0 ≤ t ∧ Arv Z h t k .byte (16 : Int32) own_z16 (.int (0 : Int32))
theorem ef_rm12 (m : MethodId) (x0 : Addr) : entryFrame m #[(.ref x0)] 1 = mkF m 0 #[.val (.ref x0)] [] := by first | (simp [entryFrame, mkF, argsToLocals, Value.category]; done) | rfl
theorem pnc_java_lang_StringBuilder : plainName "java/lang/StringBuilder" = true := by first | (simp [plainName, overriddenIn]; done) | decide +kernel
set_option maxRecDepth 65536 in
set_option maxHeartbeats 40000000 in
theorem rm12 (l : Launch) (Z : State) (a0 : Array Value) (hw : ∀ d ∈ tables_1, d.before a0 Z = true) (ws : List Jvm.Cond) (r0 : Addr) (cst : Int32) (fv : Value) (h0 : Heap) (n0 : Nat) (Z0 : n0 ≤ h0.size) (E0 : Exa Z h0 r0 "java/lang/StringBuilder") (Fn : Fld Z h0 r0 "java/lang/AbstractStringBuilder" "count" "I" (.int (0 : Int32))) (Fc : Fld Z h0 r0 "java/lang/AbstractStringBuilder" "coder" "B" (.int (0 : Int32))) (Fv : Fld Z h0 r0 "java/lang/AbstractStringBuilder" "value" "[B" .null) (O0 : Old Z n0 h0) (g_r0 : n0 ≤ r0) (SS : Sts Z cst fv) :
  MetFree l (⟨"java/lang/StringBuilder", "<init>", "()V"⟩ : MethodName) (head1 (Jvm.Cond.code (⟨"java/lang/StringBuilder", "<init>", "()V"⟩ : MethodName) jdk_67_method_1_code 1 none :: ws) ({ frames := 2, cells := 1, slots := 16, locals := 25 } : Room)) (fun a U => a = #[(.ref r0)] ∧ Z.Warmed39 U.vm ∧ U.heap = h0) (fun _ _ _ _ _ => True) (fun _ U o U' => ∃ v L, o = .returned v ∧ Q12 Z r0 cst fv h0 n0 v U'.heap L ∧ FrameEnd U o U' L ({ frames := 2, cells := 1, slots := 16, locals := 25 } : Room).cells ({ frames := 2, cells := 1, slots := 16, locals := 25 } : Room).slots) := by
 refine MetFree.of_bodySF (plainFor_of_name pnc_java_lang_StringBuilder) hisR ?_
 intro p e s m args below meth c s₁ Bd hml0 hP hK
 obtain ⟨rfl, hZ, hh⟩ := hP
 have hx := Bd.exec
 have hby := Bd.bytes
 have hml : c.maxLocals = 1 := hml0
 have hown : s.vm.findClass "java/lang/StringBuilder" = some m.cls := findClass_of_methodNamed Bd.named
 have hnm := (name_of_methodNamed Bd.named Bd.method).1
 have X0 : Stand p l e ({ frames := 2, cells := 1, slots := 16, locals := 25 } : Room) s m #[(.ref r0)] below meth c s₁ [] 0 0 := Stand.of_body Bd
 have e0 : s₁.heap = h0 := by rw [← hh, Bd.state]; rfl
 have N0 := Fr.nil n0
 have kp0 : Keep h0 h0 [r0] := Keep.refl _ _
 have G0 : ∀ t, Steps p.tables e below (s₁.setTop (mkF m 0 #[rv r0] [])) t → Steps p.tables e below (s₁.setTop (entryFrame m #[(.ref r0)] 1)) t := fun t k => castTop (ef_rm12 m r0) k
 obtain ⟨_, _, ⟨T1, L1, k1, n1⟩, -, X1, ⟨Lc1, hQ1, l1, y1, z1⟩, st1⟩ := X0.specialBack hx (y := (⟨"java/lang/AbstractStringBuilder", "<init>", "(I)V"⟩ : MethodName)) rfl hown (mvT hZ (hq hw 71 rfl)) (mvT hZ (hq hw 72 rfl)) (mvT hZ (hq hw 76 rfl)) (by decide) (backOf (W := 0) (rm13 l Z a0 hw [] r0  cst fv h0 n0 Z0 E0 Fn Fc Fv O0 g_r0 SS) hZ (hq hw 76 rfl) (hq hw 75 rfl) (by decide) (by decide)) (g := (mkF m 3 #[rv r0] [(.int (16 : Int32)), (.ref r0)])) rfl (by rw [hml]; rfl) (Steps.refl _) (a := r0) (argsL := [(.int (16 : Int32))]) (rest := []) (lenOf pd_11 rfl) rfl (by show 2 * 0 + _ ≤ _; exact Nat.le_of_eq rfl) (hb hby d12_3) (fun _ _ => ⟨rfl, e0, (by decide : 0 + 1 ≤ _), (by decide : 0 + 16 ≤ _)⟩)
 dsimp only [Pt.U, Pt.locs, Pt.cells, Pt.slots] at X1 l1 y1 z1 st1 hQ1
 subst l1 y1 z1
 obtain ⟨rfl, N1q, K1, Fn1, Fc1, tb1, kb1, Fv1, sz1, g_tb1, V1⟩ := hQ1
 have N1 := Fr.app N0 N1q
 have szk1 : h0.size ≤ tb1 := Nat.le_trans kp0.1 sz1
 have ne_r0_tb1 : r0 ≠ tb1 := Nat.ne_of_lt (Nat.lt_of_lt_of_le E0.lt sz1)
 have fa2 := E0.keep K1
 have fa3 := O0.keep K1 (allS g_r0 all0)
 have z4 : n0 ≤ T1.heap.size := Nat.le_trans Z0 K1.1
 have kp5 : Keep h0 T1.heap [r0] := kp0.trans K1 (allS (Or.inl (List.mem_of_getElem? (i := 0) rfl)) all0)
 obtain ⟨fs, hr, hrun, hended, hW, hsame⟩ := X1.leave (v := none) (fun _ => rfl)
 refine ⟨_, _, G0 _ ?_, hrun, hended, _, _, rfl, ?_, ⟨_, rfl⟩, hW, hsame.mono (by decide) (by decide)⟩
 ·skip
  refine XS.aloadN X0.here hx rfl (hb hby d12_0) rfl rfl ?_
  refine XS.bipush X0.here hx rfl (hb hby d12_1) ?_
  refine st1.trans ?_
  exact X1.returnOut hx Bd.returns (hb hby d12_6) hr
 ·show Q12 Z r0 cst fv h0 n0 _ T1.heap _
  exact ⟨rfl, N1, kp5, Fn1, Fc1, tb1, kb1, Fv1, szk1, g_tb1, V1⟩
theorem own_len (m : Int32) : (m >>> ((fcoder (0 : Int32)) &&& 31)) = m := by
  rw [show fcoder (0 : Int32) = 0 from by decide]
  exact own_sh0 m
theorem d18_0 : decode jdk_68_method_9_code 0 = .ok (.aload_n 0, 1) := by decide +kernel
theorem d18_1 : decode jdk_68_method_9_code 1 = .ok (.getfield 15, 3) := by decide +kernel
theorem d18_4 : decode jdk_68_method_9_code 4 = .ok (.arraylength, 1) := by decide +kernel
theorem d18_5 : decode jdk_68_method_9_code 5 = .ok (.aload_n 0, 1) := by decide +kernel
theorem d18_6 : decode jdk_68_method_9_code 6 = .ok (.getfield 22, 3) := by decide +kernel
theorem d18_9 : decode jdk_68_method_9_code 9 = .ok (.ishr, 1) := by decide +kernel
theorem d18_10 : decode jdk_68_method_9_code 10 = .ok (.istore_n 2, 1) := by decide +kernel
theorem d18_11 : decode jdk_68_method_9_code 11 = .ok (.iload_n 1, 1) := by decide +kernel
theorem d18_12 : decode jdk_68_method_9_code 12 = .ok (.iload_n 2, 1) := by decide +kernel
theorem d18_13 : decode jdk_68_method_9_code 13 = .ok (.isub, 1) := by decide +kernel
theorem d18_14 : decode jdk_68_method_9_code 14 = .ok (.ifCond .le 24, 3) := by decide +kernel
theorem d18_38 : decode jdk_68_method_9_code 38 = .ok (.return_, 1) := by decide +kernel
def Q18 (Z : State) (r0 : Addr) (p1 : Int32) (tb : Addr) (kd : ClassId) (vd : List Value) (h0 : Heap) (n0 : Nat) (v : Option Value) (h : Heap) (L : List Loc) : Prop := v = none ∧ Fr n0 L ∧ h = h0
theorem ef_rm18 (m : MethodId) (x0 : Addr) (x1 : Int32) : entryFrame m #[(.ref x0), (.int x1)] 3 = mkF m 0 #[.val (.ref x0), .val (.int x1), .unset] [] := by first | (simp [entryFrame, mkF, argsToLocals, Value.category]; done) | rfl
set_option maxRecDepth 65536 in
set_option maxHeartbeats 40000000 in
theorem rm18 (l : Launch) (Z : State) (a0 : Array Value) (hw : ∀ d ∈ tables_1, d.before a0 Z = true) (ws : List Jvm.Cond) (r0 : Addr) (p1 : Int32) (tb : Addr) (kd : ClassId) (vd : List Value) (h0 : Heap) (n0 : Nat) (Z0 : n0 ≤ h0.size) (Fc : Fld Z h0 r0 "java/lang/AbstractStringBuilder" "coder" "B" (.int (0 : Int32))) (Fv : Fld Z h0 r0 "java/lang/AbstractStringBuilder" "value" "[B" (.ref tb)) (Vd : Arv Z h0 tb kd .byte (16 : Int32) vd (.int (0 : Int32))) (hcap : ¬ ((0 : Int32) < (p1 - (16 : Int32)))) :
  MetFree l (⟨"java/lang/AbstractStringBuilder", "ensureCapacityInternal", "(I)V"⟩ : MethodName) (head1 (Jvm.Cond.code (⟨"java/lang/AbstractStringBuilder", "ensureCapacityInternal", "(I)V"⟩ : MethodName) jdk_68_method_9_code 3 none :: ws) ({ frames := 0, cells := 0, slots := 0, locals := 0 } : Room)) (fun a U => a = #[(.ref r0), (.int p1)] ∧ Z.Warmed39 U.vm ∧ U.heap = h0) (fun _ _ _ _ _ => True) (fun _ U o U' => ∃ v L, o = .returned v ∧ Q18 Z r0 p1 tb kd vd h0 n0 v U'.heap L ∧ FrameEnd U o U' L ({ frames := 0, cells := 0, slots := 0, locals := 0 } : Room).cells ({ frames := 0, cells := 0, slots := 0, locals := 0 } : Room).slots) := by
 refine MetFree.of_bodySF (plainFor_of_name pnc_java_lang_AbstractStringBuilder) hisR ?_
 intro p e s m args below meth c s₁ Bd hml0 hP hK
 obtain ⟨rfl, hZ, hh⟩ := hP
 have hx := Bd.exec
 have hby := Bd.bytes
 have hml : c.maxLocals = 3 := hml0
 have hown : s.vm.findClass "java/lang/AbstractStringBuilder" = some m.cls := findClass_of_methodNamed Bd.named
 have hnm := (name_of_methodNamed Bd.named Bd.method).1
 have X0 : Stand p l e ({ frames := 0, cells := 0, slots := 0, locals := 0 } : Room) s m #[(.ref r0), (.int p1)] below meth c s₁ [] 0 0 := Stand.of_body Bd
 have e0 : s₁.heap = h0 := by rw [← hh, Bd.state]; rfl
 have N0 := Fr.nil n0
 have kp0 : Keep h0 h0 [] := Keep.refl _ _
 have G0 : ∀ t, Steps p.tables e below (s₁.setTop (mkF m 0 #[rv r0, iv p1, .unset] [])) t → Steps p.tables e below (s₁.setTop (entryFrame m #[(.ref r0), (.int p1)] 3)) t := fun t k => castTop (ef_rm18 m r0 p1) k
 obtain ⟨T1, X1, e1, st1⟩ := getF X0 hx hZ hown (host := "") (Or.inl (hq hw 79 rfl)) Via.refl e0 Fv (g := (mkF m 1 #[rv r0, iv p1, .unset] [(.ref r0)])) rfl rfl (hb hby d18_1)
 obtain ⟨cl2, Ar2, q2, S2, M2, H2, G2⟩ := id Vd
 obtain ⟨T3, X3, e3, st3⟩ := getF X1 hx hZ hown (host := "") (Or.inl (hq hw 81 rfl)) Via.refl e1 Fc (g := (mkF m 6 #[rv r0, iv p1, .unset] [(.ref r0), (.int (16 : Int32))])) rfl rfl (hb hby d18_6)
 have G4 : ∀ t, Steps p.tables e below (T3.setTop (mkF m 14 #[rv r0, iv p1, iv 16] [(.int (p1 - (16 : Int32)))])) t → Steps p.tables e below (s₁.setTop (entryFrame m #[(.ref r0), (.int p1)] 3)) t := by
  intro t kt
  refine G0 _ ?_
  refine XS.aloadN X0.here hx rfl (hb hby d18_0) rfl rfl ?_
  refine st1 _ ?_
  refine X1.arraylength hx (by rw [e1]; exact Ar2.1) (State.isArrayOf_alike hZ.alike Ar2.2.1) (g := (mkF m 4 #[rv r0, iv p1, .unset] [(.ref tb)])) rfl rfl (hb hby d18_4) _ ?_
  rw [len_of S2 M2]
  refine XS.aloadN X1.here hx rfl (hb hby d18_5) rfl rfl ?_
  refine st3 _ ?_
  refine XS.ishr X3.here hx rfl (hb hby d18_9) rfl ?_
  refine XS.istoreN X3.here hx rfl (hb hby d18_10) rfl (l' := #[rv r0, iv p1, iv 16]) rfl ?_
  refine XS.iloadN X3.here hx rfl (hb hby d18_11) rfl ?_
  refine XS.iloadN X3.here hx rfl (hb hby d18_12) rfl ?_
  refine XS.isub X3.here hx rfl (hb hby d18_13) rfl ?_
  exact kt
 have hc14_5 : ¬ ((0 : Int32) < (p1 - (16 : Int32))) := hcap
 obtain ⟨fs, hr, hrun, hended, hW, hsame⟩ := X3.leave (v := none) (fun _ => rfl)
 refine ⟨_, _, G4 _ ?_, hrun, hended, _, _, rfl, ?_, ⟨_, rfl⟩, hW, hsame.mono (by decide) (by decide)⟩
 ·skip
  refine XS.ifYes X3.here hx rfl (pc0 := 14) (pc' := 38) rfl (hb hby d18_14) rfl ((if0 _ _).trans (flt hc14_5).2.2.2) (by decide) (by decide) ?_
  exact X3.returnOut hx Bd.returns (hb hby d18_38) hr
 ·show Q18 Z r0 p1 tb kd vd h0 n0 _ T3.heap _
  rw [e3]
  exact ⟨rfl, N0, rfl⟩
theorem d20_0 : decode jdk_68_method_71_code 0 = .ok (.getstatic 18, 3) := by decide +kernel
theorem d20_3 : decode jdk_68_method_71_code 3 = .ok (.ifCond .eq 18, 3) := by decide +kernel
theorem d20_6 : decode jdk_68_method_71_code 6 = .ok (.aload_n 0, 1) := by decide +kernel
theorem d20_7 : decode jdk_68_method_71_code 7 = .ok (.getfield 22, 3) := by decide +kernel
theorem d20_10 : decode jdk_68_method_71_code 10 = .ok (.aload_n 1, 1) := by decide +kernel
theorem d20_11 : decode jdk_68_method_71_code 11 = .ok (.invokevirtual 40, 3) := by decide +kernel
theorem d20_14 : decode jdk_68_method_71_code 14 = .ok (.if_icmp .eq 7, 3) := by decide +kernel
theorem d20_21 : decode jdk_68_method_71_code 21 = .ok (.return_, 1) := by decide +kernel
def Q20 (Z : State) (r0 : Addr) (r1 : Addr) (cst : Int32) (fv : Value) (h0 : Heap) (n0 : Nat) (v : Option Value) (h : Heap) (L : List Loc) : Prop := v = none ∧ Fr n0 L ∧ h = h0
theorem ef_rm20 (m : MethodId) (x0 : Addr) (x1 : Addr) : entryFrame m #[(.ref x0), (.ref x1)] 2 = mkF m 0 #[.val (.ref x0), .val (.ref x1)] [] := by first | (simp [entryFrame, mkF, argsToLocals, Value.category]; done) | rfl
set_option maxRecDepth 65536 in
set_option maxHeartbeats 40000000 in
theorem rm20 (l : Launch) (Z : State) (a0 : Array Value) (hw : ∀ d ∈ tables_1, d.before a0 Z = true) (ws : List Jvm.Cond) (r0 : Addr) (r1 : Addr) (cst : Int32) (fv : Value) (h0 : Heap) (n0 : Nat) (Z0 : n0 ≤ h0.size) (Fc : Fld Z h0 r0 "java/lang/AbstractStringBuilder" "coder" "B" (.int (0 : Int32))) (Ey : Exa Z h0 r1 "java/lang/String") (Fcy : Fld Z h0 r1 "java/lang/String" "coder" "B" (.int (0 : Int32))) (O0 : Old Z n0 h0) (SS : Sts Z cst fv) :
  MetFree l (⟨"java/lang/AbstractStringBuilder", "inflateIfNeededFor", "(Ljava/lang/String;)V"⟩ : MethodName) (head1 (Jvm.Cond.code (⟨"java/lang/AbstractStringBuilder", "inflateIfNeededFor", "(Ljava/lang/String;)V"⟩ : MethodName) jdk_68_method_71_code 2 none :: ws) ({ frames := 1, cells := 0, slots := 0, locals := 13 } : Room)) (fun a U => a = #[(.ref r0), (.ref r1)] ∧ Z.Warmed39 U.vm ∧ U.heap = h0) (fun _ _ _ _ _ => True) (fun _ U o U' => ∃ v L, o = .returned v ∧ Q20 Z r0 r1 cst fv h0 n0 v U'.heap L ∧ FrameEnd U o U' L ({ frames := 1, cells := 0, slots := 0, locals := 13 } : Room).cells ({ frames := 1, cells := 0, slots := 0, locals := 13 } : Room).slots) := by
 refine MetFree.of_bodySF (plainFor_of_name pnc_java_lang_AbstractStringBuilder) hisR ?_
 intro p e s m args below meth c s₁ Bd hml0 hP hK
 obtain ⟨rfl, hZ, hh⟩ := hP
 have hx := Bd.exec
 have hby := Bd.bytes
 have hml : c.maxLocals = 2 := hml0
 have hown : s.vm.findClass "java/lang/AbstractStringBuilder" = some m.cls := findClass_of_methodNamed Bd.named
 have hnm := (name_of_methodNamed Bd.named Bd.method).1
 have X0 : Stand p l e ({ frames := 1, cells := 0, slots := 0, locals := 13 } : Room) s m #[(.ref r0), (.ref r1)] below meth c s₁ [] 0 0 := Stand.of_body Bd
 have e0 : s₁.heap = h0 := by rw [← hh, Bd.state]; rfl
 have N0 := Fr.nil n0
 have kp0 : Keep h0 h0 [] := Keep.refl _ _
 have G0 : ∀ t, Steps p.tables e below (s₁.setTop (mkF m 0 #[rv r0, rv r1] [])) t → Steps p.tables e below (s₁.setTop (entryFrame m #[(.ref r0), (.ref r1)] 2)) t := fun t k => castTop (ef_rm20 m r0 r1) k
 obtain ⟨T1, X1, e1, st1⟩ := getS2 X0 hx hZ hown (host := "") (Or.inl (hq hw 78 rfl)) Via.refl e0 (SS.1.ext O0.2) (g := (mkF m 0 #[rv r0, rv r1] [])) rfl (hb hby d20_0)
 have G2 : ∀ t, Steps p.tables e below (T1.setTop (mkF m 3 #[rv r0, rv r1] [(.int cst)])) t → Steps p.tables e below (s₁.setTop (entryFrame m #[(.ref r0), (.ref r1)] 2)) t := by
  intro t kt
  refine G0 _ ?_
  refine st1 _ ?_
  exact kt
 have hc3_3 : ¬ (cst = (0 : Int32)) := SS.2.1
 obtain ⟨T4, X4, e4, st4⟩ := getF X1 hx hZ hown (host := "") (Or.inl (hq hw 81 rfl)) Via.refl e1 Fc (g := (mkF m 7 #[rv r0, rv r1] [(.ref r0)])) rfl rfl (hb hby d20_7)
 obtain ⟨cq5, kq5, q5a, q5b, q5c⟩ := isOf hZ e4 Ey
 obtain ⟨_, _, ⟨T5, L5, k5, n5⟩, -, X5, ⟨Lc5, hQ5, l5, y5, z5⟩, st5⟩ := X4.virtualBack hx (y := (⟨"java/lang/String", "coder", "()B"⟩ : MethodName)) (z := (⟨"java/lang/String", "coder", "()B"⟩ : MethodName)) hown (mvT hZ (hq hw 120 rfl)) (mvT hZ (hq hw 99 rfl)) (notFace_of_selects (args := #[]) (mvT hZ (hq hw 101 rfl))) (mvT hZ (hq hw 101 rfl)) (mvT hZ (hq hw 100 rfl)) (by decide) (backOf (W := 1) (rm17 l Z a0 hw [] r1 (0 : Int32) cst fv h0 n0 Z0 Fcy O0  SS) hZ (hq hw 102 rfl) (hq hw 3 rfl) (by decide) (by decide)) q5a q5c (g := (mkF m 11 #[rv r0, rv r1] [(.ref r1), (.int (0 : Int32))])) rfl (by rw [hml]; rfl) (Steps.refl _) (argsL := []) (rest := [(.int (0 : Int32))]) (lenOf pd_1 rfl) rfl (by show 2 * 0 + _ ≤ _; exact Nat.le_of_eq rfl) (hb hby d20_11) (fun _ _ => ⟨rfl, e4, (by decide : 0 + 0 ≤ _), (by decide : 0 + 0 ≤ _)⟩)
 dsimp only [Pt.U, Pt.locs, Pt.cells, Pt.slots] at X5 l5 y5 z5 st5 hQ5
 subst l5 y5 z5
 obtain ⟨rfl, N5q, eh5⟩ := hQ5
 have N5 := Fr.app N0 N5q
 have G6 : ∀ t, Steps p.tables e below (T5.setTop (mkF m 14 #[rv r0, rv r1] [(.int (0 : Int32)), (.int (0 : Int32))])) t → Steps p.tables e below (s₁.setTop (entryFrame m #[(.ref r0), (.ref r1)] 2)) t := by
  intro t kt
  refine G2 _ ?_
  refine XS.ifNo X1.here hx rfl (hb hby d20_3) rfl ((if0 _ _).trans (feq hc3_3).1) ?_
  refine XS.aloadN X1.here hx rfl (hb hby d20_6) rfl rfl ?_
  refine st4 _ ?_
  refine XS.aloadN X4.here hx rfl (hb hby d20_10) rfl rfl ?_
  refine st5.trans ?_
  exact kt
 obtain ⟨fs, hr, hrun, hended, hW, hsame⟩ := X5.leave (v := none) (fun _ => rfl)
 refine ⟨_, _, G6 _ ?_, hrun, hended, _, _, rfl, ?_, ⟨_, rfl⟩, hW, hsame.mono (by decide) (by decide)⟩
 ·skip
  refine XS.icmpYes X5.here hx rfl (pc0 := 14) (pc' := 21) rfl (hb hby d20_14) rfl (teq (by decide)).1 (by decide) (by decide) ?_
  exact X5.returnOut hx Bd.returns (hb hby d20_21) hr
 ·show Q20 Z r0 r1 cst fv h0 n0 _ T5.heap _
  rw [eh5]
  exact ⟨rfl, N5, rfl⟩
theorem d21_0 : decode jdk_42_method_147_code 0 = .ok (.aload_n 0, 1) := by decide +kernel
theorem d21_1 : decode jdk_42_method_147_code 1 = .ok (.invokevirtual 335, 3) := by decide +kernel
theorem d21_4 : decode jdk_42_method_147_code 4 = .ok (.iload_n 3, 1) := by decide +kernel
theorem d21_5 : decode jdk_42_method_147_code 5 = .ok (.if_icmp .ne 23, 3) := by decide +kernel
theorem d21_8 : decode jdk_42_method_147_code 8 = .ok (.aload_n 0, 1) := by decide +kernel
theorem d21_9 : decode jdk_42_method_147_code 9 = .ok (.getfield 9, 3) := by decide +kernel
theorem d21_12 : decode jdk_42_method_147_code 12 = .ok (.iconst 0, 1) := by decide +kernel
theorem d21_13 : decode jdk_42_method_147_code 13 = .ok (.aload_n 1, 1) := by decide +kernel
theorem d21_14 : decode jdk_42_method_147_code 14 = .ok (.iload_n 2, 1) := by decide +kernel
theorem d21_15 : decode jdk_42_method_147_code 15 = .ok (.iload_n 3, 1) := by decide +kernel
theorem d21_16 : decode jdk_42_method_147_code 16 = .ok (.ishl, 1) := by decide +kernel
theorem d21_17 : decode jdk_42_method_147_code 17 = .ok (.aload_n 0, 1) := by decide +kernel
theorem d21_18 : decode jdk_42_method_147_code 18 = .ok (.getfield 9, 3) := by decide +kernel
theorem d21_21 : decode jdk_42_method_147_code 21 = .ok (.arraylength, 1) := by decide +kernel
theorem d21_22 : decode jdk_42_method_147_code 22 = .ok (.invokestatic 212, 3) := by decide +kernel
theorem d21_25 : decode jdk_42_method_147_code 25 = .ok (.goto 18, 3) := by decide +kernel
theorem d21_43 : decode jdk_42_method_147_code 43 = .ok (.return_, 1) := by decide +kernel
def Q21 (Z : State) (r0 : Addr) (r1 : Addr) (p2 : Int32) (ta : Addr) (kk : ClassId) (nn : Int32) (vs : List Value) (kd : ClassId) (vd : List Value) (cst : Int32) (fv : Value) (h0 : Heap) (n0 : Nat) (v : Option Value) (h : Heap) (L : List Loc) : Prop := v = none ∧ Fr n0 L ∧ Keep h0 h [r1] ∧ Arv Z h r1 kd .byte (16 : Int32) (own_cp vd vs (p2 <<< ((0 : Int32) &&& 31)) nn) (.int (0 : Int32))
theorem ef_rm21 (m : MethodId) (x0 : Addr) (x1 : Addr) (x2 : Int32) (x3 : Int32) : entryFrame m #[(.ref x0), (.ref x1), (.int x2), (.int x3)] 4 = mkF m 0 #[.val (.ref x0), .val (.ref x1), .val (.int x2), .val (.int x3)] [] := by first | (simp [entryFrame, mkF, argsToLocals, Value.category]; done) | rfl
set_option maxRecDepth 65536 in
set_option maxHeartbeats 40000000 in
theorem rm21 (l : Launch) (Z : State) (a0 : Array Value) (hw : ∀ d ∈ tables_1, d.before a0 Z = true) (ws : List Jvm.Cond) (r0 : Addr) (r1 : Addr) (p2 : Int32) (ta : Addr) (kk : ClassId) (nn : Int32) (vs : List Value) (kd : ClassId) (vd : List Value) (cst : Int32) (fv : Value) (h0 : Heap) (n0 : Nat) (Z0 : n0 ≤ h0.size) (Ey : Exa Z h0 r0 "java/lang/String") (Fcy : Fld Z h0 r0 "java/lang/String" "coder" "B" (.int (0 : Int32))) (Fvy : Fld Z h0 r0 "java/lang/String" "value" "[B" (.ref ta)) (V0 : Arv Z h0 ta kk .byte nn vs (.int (0 : Int32))) (Vd : Arv Z h0 r1 kd .byte (16 : Int32) vd (.int (0 : Int32))) (O0 : Old Z n0 h0) (g_r1 : n0 ≤ r1) (dq_01 : r0 ≠ r1) (dq_a1 : ta ≠ r1) (ok : own_ok (p2 <<< ((0 : Int32) &&& 31)) nn nn (16 : Int32) vd.length) (SS : Sts Z cst fv) :
  MetFree l (⟨"java/lang/String", "getBytes", "([BIB)V"⟩ : MethodName) (head1 (Jvm.Cond.code (⟨"java/lang/String", "getBytes", "([BIB)V"⟩ : MethodName) jdk_42_method_147_code 4 none :: ws) ({ frames := 1, cells := 0, slots := 0, locals := 18 } : Room)) (fun a U => a = #[(.ref r0), (.ref r1), (.int p2), (.int (0 : Int32))] ∧ Z.Warmed39 U.vm ∧ U.heap = h0) (fun _ _ _ _ _ => True) (fun _ U o U' => ∃ v L, o = .returned v ∧ Q21 Z r0 r1 p2 ta kk nn vs kd vd cst fv h0 n0 v U'.heap L ∧ FrameEnd U o U' L ({ frames := 1, cells := 0, slots := 0, locals := 18 } : Room).cells ({ frames := 1, cells := 0, slots := 0, locals := 18 } : Room).slots) := by
 refine MetFree.of_bodySF (plainFor_of_name pnc_java_lang_String) hisR ?_
 intro p e s m args below meth c s₁ Bd hml0 hP hK
 obtain ⟨rfl, hZ, hh⟩ := hP
 have hx := Bd.exec
 have hby := Bd.bytes
 have hml : c.maxLocals = 4 := hml0
 have hown : s.vm.findClass "java/lang/String" = some m.cls := findClass_of_methodNamed Bd.named
 have hnm := (name_of_methodNamed Bd.named Bd.method).1
 have X0 : Stand p l e ({ frames := 1, cells := 0, slots := 0, locals := 18 } : Room) s m #[(.ref r0), (.ref r1), (.int p2), (.int (0 : Int32))] below meth c s₁ [] 0 0 := Stand.of_body Bd
 have e0 : s₁.heap = h0 := by rw [← hh, Bd.state]; rfl
 have N0 := Fr.nil n0
 have kp0 : Keep h0 h0 [r1] := Keep.refl _ _
 have G0 : ∀ t, Steps p.tables e below (s₁.setTop (mkF m 0 #[rv r0, rv r1, iv p2, iv 0] [])) t → Steps p.tables e below (s₁.setTop (entryFrame m #[(.ref r0), (.ref r1), (.int p2), (.int (0 : Int32))] 4)) t := fun t k => castTop (ef_rm21 m r0 r1 p2 (0 : Int32)) k
 obtain ⟨cq1, kq1, q1a, q1b, q1c⟩ := isOf hZ e0 Ey
 obtain ⟨_, _, ⟨T1, L1, k1, n1⟩, -, X1, ⟨Lc1, hQ1, l1, y1, z1⟩, st1⟩ := X0.virtualBack hx (y := (⟨"java/lang/String", "coder", "()B"⟩ : MethodName)) (z := (⟨"java/lang/String", "coder", "()B"⟩ : MethodName)) hown (mvT hZ (hq hw 98 rfl)) (mvT hZ (hq hw 99 rfl)) (notFace_of_selects (args := #[]) (mvT hZ (hq hw 101 rfl))) (mvT hZ (hq hw 101 rfl)) (mvT hZ (hq hw 100 rfl)) (by decide) (backOf (W := 0) (rm17 l Z a0 hw [] r0 (0 : Int32) cst fv h0 n0 Z0 Fcy O0  SS) hZ (hq hw 102 rfl) (hq hw 3 rfl) (by decide) (by decide)) q1a q1c (g := (mkF m 1 #[rv r0, rv r1, iv p2, iv 0] [(.ref r0)])) rfl (by rw [hml]; rfl) (Steps.refl _) (argsL := []) (rest := []) (lenOf pd_1 rfl) rfl (by show 2 * 0 + _ ≤ _; exact Nat.le_of_eq rfl) (hb hby d21_1) (fun _ _ => ⟨rfl, e0, (by decide : 0 + 0 ≤ _), (by decide : 0 + 0 ≤ _)⟩)
 dsimp only [Pt.U, Pt.locs, Pt.cells, Pt.slots] at X1 l1 y1 z1 st1 hQ1
 subst l1 y1 z1
 obtain ⟨rfl, N1q, eh1⟩ := hQ1
 have N1 := Fr.app N0 N1q
 have G2 : ∀ t, Steps p.tables e below (T1.setTop (mkF m 5 #[rv r0, rv r1, iv p2, iv 0] [(.int (0 : Int32)), (.int (0 : Int32))])) t → Steps p.tables e below (s₁.setTop (entryFrame m #[(.ref r0), (.ref r1), (.int p2), (.int (0 : Int32))] 4)) t := by
  intro t kt
  refine G0 _ ?_
  refine XS.aloadN X0.here hx rfl (hb hby d21_0) rfl rfl ?_
  refine st1.trans ?_
  refine XS.iloadN X1.here hx rfl (hb hby d21_4) rfl ?_
  exact kt
 obtain ⟨T3, X3, e3, st3⟩ := getF X1 hx hZ hown (host := "") (Or.inl (hq hw 28 rfl)) Via.refl eh1 Fvy (g := (mkF m 9 #[rv r0, rv r1, iv p2, iv 0] [(.ref r0)])) rfl rfl (hb hby d21_9)
 obtain ⟨T4, X4, e4, st4⟩ := getF X3 hx hZ hown (host := "") (Or.inl (hq hw 28 rfl)) Via.refl e3 Fvy (g := (mkF m 18 #[rv r0, rv r1, iv p2, iv 0] [(.ref r0), (.int (p2 <<< ((0 : Int32) &&& 31))), (.ref r1), (.int (0 : Int32)), (.ref ta)])) rfl rfl (hb hby d21_18)
 obtain ⟨cl5, Ar5, q5, S5, M5, H5, G5⟩ := id V0
 obtain ⟨T6, h6, L6, X6, e6, N6, K6, V6, st6⟩ := cpA X4 hx hZ hown (hq hw 126 rfl) (hq hw 129 rfl) (hq hw 127 rfl) (hq hw 128 rfl) e4 V0 Vd (Or.inl ⟨rfl, rfl⟩) (sp := (0 : Int32)) (dp := (p2 <<< ((0 : Int32) &&& 31))) (nn := nn) (by decide) ok.1 ok.2.1 ok.2.2.1 ok.2.2.2.1 rfl ok.2.2.2.2 N1 g_r1 (g := (mkF m 22 #[rv r0, rv r1, iv p2, iv 0] [(.int nn), (.int (p2 <<< ((0 : Int32) &&& 31))), (.ref r1), (.int (0 : Int32)), (.ref ta)])) rfl (by rw [hml]; rfl) rfl (hb hby d21_22) (by decide) (W := 0) (by show 2 * 0 + _ ≤ _; exact Nat.le_of_eq rfl) (by decide)
 have fa7 := Ey.keep K6
 have fa8 := Fcy.keep K6 (ninS dq_01 nin0)
 have fa9 := Fvy.keep K6 (ninS dq_01 nin0)
 have fa10 := V0.keep K6 (ninS dq_a1 nin0)
 have fa11 := O0.keep K6 (allS g_r1 all0)
 have z12 : n0 ≤ h6.size := Nat.le_trans Z0 K6.1
 have kp13 : Keep h0 h6 [r1] := kp0.trans K6 (allS (Or.inl (List.mem_of_getElem? (i := 0) rfl)) all0)
 have fa14 : Arv Z h6 r1 kd .byte (16 : Int32) (own_cp vd vs (p2 <<< ((0 : Int32) &&& 31)) nn) (.int (0 : Int32)) := V6
 obtain ⟨fs, hr, hrun, hended, hW, hsame⟩ := X6.leave (v := none) (fun _ => rfl)
 refine ⟨_, _, G2 _ ?_, hrun, hended, _, _, rfl, ?_, ⟨_, rfl⟩, hW, hsame.mono (by decide) (by decide)⟩
 ·skip
  refine XS.icmpNo X1.here hx rfl (hb hby d21_5) rfl (teq (by decide)).2 ?_
  refine XS.aloadN X1.here hx rfl (hb hby d21_8) rfl rfl ?_
  refine st3 _ ?_
  refine XS.iconst X3.here hx rfl (hb hby d21_12) ?_
  refine XS.aloadN X3.here hx rfl (hb hby d21_13) rfl rfl ?_
  refine XS.iloadN X3.here hx rfl (hb hby d21_14) rfl ?_
  refine XS.iloadN X3.here hx rfl (hb hby d21_15) rfl ?_
  refine XS.ishl X3.here hx rfl (hb hby d21_16) rfl ?_
  refine XS.aloadN X3.here hx rfl (hb hby d21_17) rfl rfl ?_
  refine st4 _ ?_
  refine X4.arraylength hx (by rw [e4]; exact Ar5.1) (State.isArrayOf_alike hZ.alike Ar5.2.1) (g := (mkF m 21 #[rv r0, rv r1, iv p2, iv 0] [(.ref ta), (.int (p2 <<< ((0 : Int32) &&& 31))), (.ref r1), (.int (0 : Int32)), (.ref ta)])) rfl rfl (hb hby d21_21) _ ?_
  rw [len_of S5 M5]
  refine st6 _ ?_
  refine XS.goto X6.here hx rfl (pc0 := 25) (pc' := 43) rfl (hb hby d21_25) (by decide) (by decide) ?_
  exact X6.returnOut hx Bd.returns (hb hby d21_43) hr
 ·show Q21 Z r0 r1 p2 ta kk nn vs kd vd cst fv h0 n0 _ T6.heap _
  rw [e6]
  exact ⟨rfl, N6, kp13, fa14⟩
theorem d19_0 : decode jdk_68_method_73_code 0 = .ok (.aload_n 0, 1) := by decide +kernel
theorem d19_1 : decode jdk_68_method_73_code 1 = .ok (.aload_n 2, 1) := by decide +kernel
theorem d19_2 : decode jdk_68_method_73_code 2 = .ok (.invokevirtual 397, 3) := by decide +kernel
theorem pd_12 : parseMethodDescriptor "(Ljava/lang/String;)V" = some ⟨[(.object "java/lang/String")], none⟩ := by decide +kernel
theorem d19_5 : decode jdk_68_method_73_code 5 = .ok (.aload_n 2, 1) := by decide +kernel
theorem d19_6 : decode jdk_68_method_73_code 6 = .ok (.aload_n 0, 1) := by decide +kernel
theorem d19_7 : decode jdk_68_method_73_code 7 = .ok (.getfield 15, 3) := by decide +kernel
theorem d19_10 : decode jdk_68_method_73_code 10 = .ok (.iload_n 1, 1) := by decide +kernel
theorem d19_11 : decode jdk_68_method_73_code 11 = .ok (.aload_n 0, 1) := by decide +kernel
theorem d19_12 : decode jdk_68_method_73_code 12 = .ok (.getfield 22, 3) := by decide +kernel
theorem d19_15 : decode jdk_68_method_73_code 15 = .ok (.invokevirtual 399, 3) := by decide +kernel
theorem pd_13 : parseMethodDescriptor "([BIB)V" = some ⟨[(.array .byte), .int, .byte], none⟩ := by decide +kernel
theorem d19_18 : decode jdk_68_method_73_code 18 = .ok (.return_, 1) := by decide +kernel
def Q19 (Z : State) (r0 : Addr) (p1 : Int32) (r2 : Addr) (tb : Addr) (kd : ClassId) (vd : List Value) (ta : Addr) (kk : ClassId) (nn : Int32) (vs : List Value) (cst : Int32) (fv : Value) (h0 : Heap) (n0 : Nat) (v : Option Value) (h : Heap) (L : List Loc) : Prop := v = none ∧ Fr n0 L ∧ Keep h0 h [tb] ∧ Arv Z h tb kd .byte (16 : Int32) (own_cp vd vs (p1 <<< ((0 : Int32) &&& 31)) nn) (.int (0 : Int32))
theorem ef_rm19 (m : MethodId) (x0 : Addr) (x1 : Int32) (x2 : Addr) : entryFrame m #[(.ref x0), (.int x1), (.ref x2)] 3 = mkF m 0 #[.val (.ref x0), .val (.int x1), .val (.ref x2)] [] := by first | (simp [entryFrame, mkF, argsToLocals, Value.category]; done) | rfl
set_option maxRecDepth 65536 in
set_option maxHeartbeats 40000000 in
theorem rm19 (l : Launch) (Z : State) (a0 : Array Value) (hw : ∀ d ∈ tables_1, d.before a0 Z = true) (ws : List Jvm.Cond) (r0 : Addr) (p1 : Int32) (r2 : Addr) (tb : Addr) (kd : ClassId) (vd : List Value) (ta : Addr) (kk : ClassId) (nn : Int32) (vs : List Value) (cst : Int32) (fv : Value) (h0 : Heap) (n0 : Nat) (Z0 : n0 ≤ h0.size) (E0 : Exa Z h0 r0 "java/lang/StringBuilder") (Fc : Fld Z h0 r0 "java/lang/AbstractStringBuilder" "coder" "B" (.int (0 : Int32))) (Fv : Fld Z h0 r0 "java/lang/AbstractStringBuilder" "value" "[B" (.ref tb)) (Vd : Arv Z h0 tb kd .byte (16 : Int32) vd (.int (0 : Int32))) (Ey : Exa Z h0 r2 "java/lang/String") (Fcy : Fld Z h0 r2 "java/lang/String" "coder" "B" (.int (0 : Int32))) (Fvy : Fld Z h0 r2 "java/lang/String" "value" "[B" (.ref ta)) (V0 : Arv Z h0 ta kk .byte nn vs (.int (0 : Int32))) (O0 : Old Z n0 h0) (g_tb : n0 ≤ tb) (dq_0b : r0 ≠ tb) (dq_2b : r2 ≠ tb) (dq_ab : ta ≠ tb) (ok : own_ok (p1 <<< ((0 : Int32) &&& 31)) nn nn (16 : Int32) vd.length) (SS : Sts Z cst fv) :
  MetFree l (⟨"java/lang/AbstractStringBuilder", "putStringAt", "(ILjava/lang/String;)V"⟩ : MethodName) (head1 (Jvm.Cond.code (⟨"java/lang/AbstractStringBuilder", "putStringAt", "(ILjava/lang/String;)V"⟩ : MethodName) jdk_68_method_73_code 3 none :: ws) ({ frames := 2, cells := 0, slots := 0, locals := 33 } : Room)) (fun a U => a = #[(.ref r0), (.int p1), (.ref r2)] ∧ Z.Warmed39 U.vm ∧ U.heap = h0) (fun _ _ _ _ _ => True) (fun _ U o U' => ∃ v L, o = .returned v ∧ Q19 Z r0 p1 r2 tb kd vd ta kk nn vs cst fv h0 n0 v U'.heap L ∧ FrameEnd U o U' L ({ frames := 2, cells := 0, slots := 0, locals := 33 } : Room).cells ({ frames := 2, cells := 0, slots := 0, locals := 33 } : Room).slots) := by
 refine MetFree.of_bodySF (plainFor_of_name pnc_java_lang_AbstractStringBuilder) hisR ?_
 intro p e s m args below meth c s₁ Bd hml0 hP hK
 obtain ⟨rfl, hZ, hh⟩ := hP
 have hx := Bd.exec
 have hby := Bd.bytes
 have hml : c.maxLocals = 3 := hml0
 have hown : s.vm.findClass "java/lang/AbstractStringBuilder" = some m.cls := findClass_of_methodNamed Bd.named
 have hnm := (name_of_methodNamed Bd.named Bd.method).1
 have X0 : Stand p l e ({ frames := 2, cells := 0, slots := 0, locals := 33 } : Room) s m #[(.ref r0), (.int p1), (.ref r2)] below meth c s₁ [] 0 0 := Stand.of_body Bd
 have e0 : s₁.heap = h0 := by rw [← hh, Bd.state]; rfl
 have N0 := Fr.nil n0
 have kp0 : Keep h0 h0 [tb] := Keep.refl _ _
 have G0 : ∀ t, Steps p.tables e below (s₁.setTop (mkF m 0 #[rv r0, iv p1, rv r2] [])) t → Steps p.tables e below (s₁.setTop (entryFrame m #[(.ref r0), (.int p1), (.ref r2)] 3)) t := fun t k => castTop (ef_rm19 m r0 p1 r2) k
 obtain ⟨cq1, kq1, q1a, q1b, q1c⟩ := isOf hZ e0 E0
 obtain ⟨_, _, ⟨T1, L1, k1, n1⟩, -, X1, ⟨Lc1, hQ1, l1, y1, z1⟩, st1⟩ := X0.virtualBack hx (y := (⟨"java/lang/AbstractStringBuilder", "inflateIfNeededFor", "(Ljava/lang/String;)V"⟩ : MethodName)) (z := (⟨"java/lang/AbstractStringBuilder", "inflateIfNeededFor", "(Ljava/lang/String;)V"⟩ : MethodName)) hown (mvT hZ (hq hw 115 rfl)) (own_decl (mvT hZ (hq hw 116 rfl)) (mvT hZ (hq hw 119 rfl))) (notFace_of_selects (args := #[]) (mvT hZ (hq hw 118 rfl))) (mvT hZ (hq hw 118 rfl)) (mvT hZ (hq hw 116 rfl)) (by decide) (backOf (W := 0) (rm20 l Z a0 hw [] r0 r2  cst fv h0 n0 Z0 Fc Ey Fcy O0  SS) hZ (hq hw 119 rfl) (hq hw 75 rfl) (by decide) (by decide)) q1a q1c (g := (mkF m 2 #[rv r0, iv p1, rv r2] [(.ref r2), (.ref r0)])) rfl (by rw [hml]; rfl) (Steps.refl _) (argsL := [(.ref r2)]) (rest := []) (lenOf pd_12 rfl) rfl (by show 2 * 0 + _ ≤ _; exact Nat.le_of_eq rfl) (hb hby d19_2) (fun _ _ => ⟨rfl, e0, (by decide : 0 + 0 ≤ _), (by decide : 0 + 0 ≤ _)⟩)
 dsimp only [Pt.U, Pt.locs, Pt.cells, Pt.slots] at X1 l1 y1 z1 st1 hQ1
 subst l1 y1 z1
 obtain ⟨rfl, N1q, eh1⟩ := hQ1
 have N1 := Fr.app N0 N1q
 obtain ⟨T2, X2, e2, st2⟩ := getF X1 hx hZ hown (host := "") (Or.inl (hq hw 79 rfl)) Via.refl eh1 Fv (g := (mkF m 7 #[rv r0, iv p1, rv r2] [(.ref r0), (.ref r2)])) rfl rfl (hb hby d19_7)
 obtain ⟨T3, X3, e3, st3⟩ := getF X2 hx hZ hown (host := "") (Or.inl (hq hw 81 rfl)) Via.refl e2 Fc (g := (mkF m 12 #[rv r0, iv p1, rv r2] [(.ref r0), (.int p1), (.ref tb), (.ref r2)])) rfl rfl (hb hby d19_12)
 obtain ⟨cq4, kq4, q4a, q4b, q4c⟩ := isOf hZ e3 Ey
 obtain ⟨_, _, ⟨T4, L4, k4, n4⟩, -, X4, ⟨Lc4, hQ4, l4, y4, z4⟩, st4⟩ := X3.virtualBack hx (y := (⟨"java/lang/String", "getBytes", "([BIB)V"⟩ : MethodName)) (z := (⟨"java/lang/String", "getBytes", "([BIB)V"⟩ : MethodName)) hown (mvT hZ (hq hw 121 rfl)) (mvT hZ (hq hw 122 rfl)) (notFace_of_selects (args := #[]) (mvT hZ (hq hw 124 rfl))) (mvT hZ (hq hw 124 rfl)) (mvT hZ (hq hw 123 rfl)) (by decide) (backOf (W := 0) (rm21 l Z a0 hw [] r2 tb p1 ta kk nn vs kd vd cst fv h0 n0 Z0 Ey Fcy Fvy V0 Vd O0 g_tb dq_2b dq_ab ok SS) hZ (hq hw 125 rfl) (hq hw 3 rfl) (by decide) (by decide)) q4a q4c (g := (mkF m 15 #[rv r0, iv p1, rv r2] [(.int (0 : Int32)), (.int p1), (.ref tb), (.ref r2)])) rfl (by rw [hml]; rfl) (Steps.refl _) (argsL := [(.ref tb), (.int p1), (.int (0 : Int32))]) (rest := []) (lenOf pd_13 rfl) rfl (by show 2 * 0 + _ ≤ _; exact Nat.le_of_eq rfl) (hb hby d19_15) (fun _ _ => ⟨rfl, e3, (by decide : 0 + 0 ≤ _), (by decide : 0 + 0 ≤ _)⟩)
 dsimp only [Pt.U, Pt.locs, Pt.cells, Pt.slots] at X4 l4 y4 z4 st4 hQ4
 subst l4 y4 z4
 obtain ⟨rfl, N4q, K4, V4⟩ := hQ4
 have N4 := Fr.app N1 N4q
 have fa5 := E0.keep K4
 have fa6 := Fc.keep K4 (ninS dq_0b nin0)
 have fa7 := Fv.keep K4 (ninS dq_0b nin0)
 have fa8 := Ey.keep K4
 have fa9 := Fcy.keep K4 (ninS dq_2b nin0)
 have fa10 := Fvy.keep K4 (ninS dq_2b nin0)
 have fa11 := V0.keep K4 (ninS dq_ab nin0)
 have fa12 := O0.keep K4 (allS g_tb all0)
 have z13 : n0 ≤ T4.heap.size := Nat.le_trans Z0 K4.1
 have kp14 : Keep h0 T4.heap [tb] := kp0.trans K4 (allS (Or.inl (List.mem_of_getElem? (i := 0) rfl)) all0)
 obtain ⟨fs, hr, hrun, hended, hW, hsame⟩ := X4.leave (v := none) (fun _ => rfl)
 refine ⟨_, _, G0 _ ?_, hrun, hended, _, _, rfl, ?_, ⟨_, rfl⟩, hW, hsame.mono (by decide) (by decide)⟩
 ·skip
  refine XS.aloadN X0.here hx rfl (hb hby d19_0) rfl rfl ?_
  refine XS.aloadN X0.here hx rfl (hb hby d19_1) rfl rfl ?_
  refine st1.trans ?_
  refine XS.aloadN X1.here hx rfl (hb hby d19_5) rfl rfl ?_
  refine XS.aloadN X1.here hx rfl (hb hby d19_6) rfl rfl ?_
  refine st2 _ ?_
  refine XS.iloadN X2.here hx rfl (hb hby d19_10) rfl ?_
  refine XS.aloadN X2.here hx rfl (hb hby d19_11) rfl rfl ?_
  refine st3 _ ?_
  refine st4.trans ?_
  exact X4.returnOut hx Bd.returns (hb hby d19_18) hr
 ·show Q19 Z r0 p1 r2 tb kd vd ta kk nn vs cst fv h0 n0 _ T4.heap _
  exact ⟨rfl, N4, kp14, V4⟩
theorem d15_0 : decode jdk_68_method_22_code 0 = .ok (.aload_n 1, 1) := by decide +kernel
theorem d15_1 : decode jdk_68_method_22_code 1 = .ok (.ifnonnull 8, 3) := by decide +kernel
theorem d15_9 : decode jdk_68_method_22_code 9 = .ok (.aload_n 1, 1) := by decide +kernel
theorem d15_10 : decode jdk_68_method_22_code 10 = .ok (.invokevirtual 32, 3) := by decide +kernel
theorem pd_14 : parseMethodDescriptor "()I" = some ⟨[], some .int⟩ := by decide +kernel
theorem d15_13 : decode jdk_68_method_22_code 13 = .ok (.istore_n 2, 1) := by decide +kernel
theorem d15_14 : decode jdk_68_method_22_code 14 = .ok (.aload_n 0, 1) := by decide +kernel
theorem d15_15 : decode jdk_68_method_22_code 15 = .ok (.aload_n 0, 1) := by decide +kernel
theorem d15_16 : decode jdk_68_method_22_code 16 = .ok (.getfield 79, 3) := by decide +kernel
theorem d15_19 : decode jdk_68_method_22_code 19 = .ok (.iload_n 2, 1) := by decide +kernel
theorem d15_20 : decode jdk_68_method_22_code 20 = .ok (.iadd, 1) := by decide +kernel
theorem d15_21 : decode jdk_68_method_22_code 21 = .ok (.invokevirtual 100, 3) := by decide +kernel
theorem d15_24 : decode jdk_68_method_22_code 24 = .ok (.aload_n 0, 1) := by decide +kernel
theorem d15_25 : decode jdk_68_method_22_code 25 = .ok (.aload_n 0, 1) := by decide +kernel
theorem d15_26 : decode jdk_68_method_22_code 26 = .ok (.getfield 79, 3) := by decide +kernel
theorem d15_29 : decode jdk_68_method_22_code 29 = .ok (.aload_n 1, 1) := by decide +kernel
theorem d15_30 : decode jdk_68_method_22_code 30 = .ok (.invokevirtual 208, 3) := by decide +kernel
theorem pd_15 : parseMethodDescriptor "(ILjava/lang/String;)V" = some ⟨[.int, (.object "java/lang/String")], none⟩ := by decide +kernel
theorem d15_33 : decode jdk_68_method_22_code 33 = .ok (.aload_n 0, 1) := by decide +kernel
theorem d15_34 : decode jdk_68_method_22_code 34 = .ok (.dup, 1) := by decide +kernel
theorem d15_35 : decode jdk_68_method_22_code 35 = .ok (.getfield 79, 3) := by decide +kernel
theorem d15_38 : decode jdk_68_method_22_code 38 = .ok (.iload_n 2, 1) := by decide +kernel
theorem d15_39 : decode jdk_68_method_22_code 39 = .ok (.iadd, 1) := by decide +kernel
theorem d15_40 : decode jdk_68_method_22_code 40 = .ok (.putfield 79, 3) := by decide +kernel
theorem d15_43 : decode jdk_68_method_22_code 43 = .ok (.aload_n 0, 1) := by decide +kernel
theorem d15_44 : decode jdk_68_method_22_code 44 = .ok (.areturn, 1) := by decide +kernel
def Q15 (Z : State) (r0 : Addr) (r1 : Addr) (tb : Addr) (kd : ClassId) (vd : List Value) (cn : Int32) (ta : Addr) (kk : ClassId) (nn : Int32) (vs : List Value) (cst : Int32) (fv : Value) (h0 : Heap) (n0 : Nat) (v : Option Value) (h : Heap) (L : List Loc) : Prop := v = some (.ref r0) ∧ Fr n0 L ∧ Keep h0 h [r0, tb] ∧ Fld Z h r0 "java/lang/AbstractStringBuilder" "count" "I" (.int (cn + nn)) ∧ Fld Z h r0 "java/lang/AbstractStringBuilder" "coder" "B" (.int (0 : Int32)) ∧ Fld Z h r0 "java/lang/AbstractStringBuilder" "value" "[B" (.ref tb) ∧ Arv Z h tb kd .byte (16 : Int32) (own_cp vd vs (cn <<< ((0 : Int32) &&& 31)) nn) (.int (0 : Int32))
theorem ef_rm15 (m : MethodId) (x0 : Addr) (x1 : Addr) : entryFrame m #[(.ref x0), (.ref x1)] 3 = mkF m 0 #[.val (.ref x0), .val (.ref x1), .unset] [] := by first | (simp [entryFrame, mkF, argsToLocals, Value.category]; done) | rfl
set_option maxRecDepth 65536 in
set_option maxHeartbeats 40000000 in
theorem rm15 (l : Launch) (Z : State) (a0 : Array Value) (hw : ∀ d ∈ tables_1, d.before a0 Z = true) (ws : List Jvm.Cond) (r0 : Addr) (r1 : Addr) (tb : Addr) (kd : ClassId) (vd : List Value) (cn : Int32) (ta : Addr) (kk : ClassId) (nn : Int32) (vs : List Value) (cst : Int32) (fv : Value) (h0 : Heap) (n0 : Nat) (Z0 : n0 ≤ h0.size) (E0 : Exa Z h0 r0 "java/lang/StringBuilder") (Fn : Fld Z h0 r0 "java/lang/AbstractStringBuilder" "count" "I" (.int cn)) (Fc : Fld Z h0 r0 "java/lang/AbstractStringBuilder" "coder" "B" (.int (0 : Int32))) (Fv : Fld Z h0 r0 "java/lang/AbstractStringBuilder" "value" "[B" (.ref tb)) (Vd : Arv Z h0 tb kd .byte (16 : Int32) vd (.int (0 : Int32))) (Ey : Exa Z h0 r1 "java/lang/String") (Fcy : Fld Z h0 r1 "java/lang/String" "coder" "B" (.int (0 : Int32))) (Fvy : Fld Z h0 r1 "java/lang/String" "value" "[B" (.ref ta)) (V0 : Arv Z h0 ta kk .byte nn vs (.int (0 : Int32))) (O0 : Old Z n0 h0) (g_r0 : n0 ≤ r0) (g_tb : n0 ≤ tb) (dq_0b : r0 ≠ tb) (dq_1b : r1 ≠ tb) (dq_ab : ta ≠ tb) (dq_01 : r0 ≠ r1) (dq_0a : r0 ≠ ta) (hcap : ¬ ((0 : Int32) < ((cn + nn) - (16 : Int32)))) (ok : own_ok (cn <<< ((0 : Int32) &&& 31)) nn nn (16 : Int32) vd.length) (SS : Sts Z cst fv) :
  MetFree l (⟨"java/lang/AbstractStringBuilder", "append", "(Ljava/lang/String;)Ljava/lang/AbstractStringBuilder;"⟩ : MethodName) (head1 (Jvm.Cond.code (⟨"java/lang/AbstractStringBuilder", "append", "(Ljava/lang/String;)Ljava/lang/AbstractStringBuilder;"⟩ : MethodName) jdk_68_method_22_code 3 (some (.object "java/lang/AbstractStringBuilder")) :: ws) ({ frames := 3, cells := 0, slots := 0, locals := 47 } : Room)) (fun a U => a = #[(.ref r0), (.ref r1)] ∧ Z.Warmed39 U.vm ∧ U.heap = h0) (fun _ _ _ _ _ => True) (fun _ U o U' => ∃ v L, o = .returned v ∧ Q15 Z r0 r1 tb kd vd cn ta kk nn vs cst fv h0 n0 v U'.heap L ∧ FrameEnd U o U' L ({ frames := 3, cells := 0, slots := 0, locals := 47 } : Room).cells ({ frames := 3, cells := 0, slots := 0, locals := 47 } : Room).slots) := by
 refine MetFree.of_bodySF (plainFor_of_name pnc_java_lang_AbstractStringBuilder) hisR ?_
 intro p e s m args below meth c s₁ Bd hml0 hP hK
 obtain ⟨rfl, hZ, hh⟩ := hP
 have hx := Bd.exec
 have hby := Bd.bytes
 have hml : c.maxLocals = 3 := hml0
 have hown : s.vm.findClass "java/lang/AbstractStringBuilder" = some m.cls := findClass_of_methodNamed Bd.named
 have hnm := (name_of_methodNamed Bd.named Bd.method).1
 have X0 : Stand p l e ({ frames := 3, cells := 0, slots := 0, locals := 47 } : Room) s m #[(.ref r0), (.ref r1)] below meth c s₁ [] 0 0 := Stand.of_body Bd
 have e0 : s₁.heap = h0 := by rw [← hh, Bd.state]; rfl
 have N0 := Fr.nil n0
 have kp0 : Keep h0 h0 [r0, tb] := Keep.refl _ _
 have G0 : ∀ t, Steps p.tables e below (s₁.setTop (mkF m 0 #[rv r0, rv r1, .unset] [])) t → Steps p.tables e below (s₁.setTop (entryFrame m #[(.ref r0), (.ref r1)] 3)) t := fun t k => castTop (ef_rm15 m r0 r1) k
 obtain ⟨cq1, kq1, q1a, q1b, q1c⟩ := isOf hZ e0 Ey
 obtain ⟨_, _, ⟨T1, L1, k1, n1⟩, -, X1, ⟨Lc1, hQ1, l1, y1, z1⟩, st1⟩ := X0.virtualBack hx (y := (⟨"java/lang/String", "length", "()I"⟩ : MethodName)) (z := (⟨"java/lang/String", "length", "()I"⟩ : MethodName)) hown (mvT hZ (hq hw 93 rfl)) (mvT hZ (hq hw 94 rfl)) (notFace_of_selects (args := #[]) (mvT hZ (hq hw 96 rfl))) (mvT hZ (hq hw 96 rfl)) (mvT hZ (hq hw 95 rfl)) (by decide) (backOf (W := 0) (rm16 l Z a0 hw [] r1 (0 : Int32) ta kk nn vs nn cst fv h0 n0 Z0 Ey Fcy Fvy V0 O0 (own_len _) SS) hZ (hq hw 97 rfl) (hq hw 3 rfl) (by decide) (by decide)) q1a q1c (g := (mkF m 10 #[rv r0, rv r1, .unset] [(.ref r1)])) rfl (by rw [hml]; rfl) (Steps.refl _) (argsL := []) (rest := []) (lenOf pd_14 rfl) rfl (by show 2 * 0 + _ ≤ _; exact Nat.le_of_eq rfl) (hb hby d15_10) (fun _ _ => ⟨rfl, e0, (by decide : 0 + 0 ≤ _), (by decide : 0 + 0 ≤ _)⟩)
 dsimp only [Pt.U, Pt.locs, Pt.cells, Pt.slots] at X1 l1 y1 z1 st1 hQ1
 subst l1 y1 z1
 obtain ⟨rfl, N1q, eh1⟩ := hQ1
 have N1 := Fr.app N0 N1q
 obtain ⟨T2, X2, e2, st2⟩ := getF X1 hx hZ hown (host := "") (Or.inl (hq hw 103 rfl)) Via.refl eh1 Fn (g := (mkF m 16 #[rv r0, rv r1, iv nn] [(.ref r0), (.ref r0)])) rfl rfl (hb hby d15_16)
 obtain ⟨cq3, kq3, q3a, q3b, q3c⟩ := isOf hZ e2 E0
 obtain ⟨_, _, ⟨T3, L3, k3, n3⟩, -, X3, ⟨Lc3, hQ3, l3, y3, z3⟩, st3⟩ := X2.virtualBack hx (y := (⟨"java/lang/AbstractStringBuilder", "ensureCapacityInternal", "(I)V"⟩ : MethodName)) (z := (⟨"java/lang/AbstractStringBuilder", "ensureCapacityInternal", "(I)V"⟩ : MethodName)) hown (mvT hZ (hq hw 105 rfl)) (own_decl (mvT hZ (hq hw 106 rfl)) (mvT hZ (hq hw 109 rfl))) (notFace_of_selects (args := #[]) (mvT hZ (hq hw 108 rfl))) (mvT hZ (hq hw 108 rfl)) (mvT hZ (hq hw 106 rfl)) (by decide) (backOf (W := 0) (rm18 l Z a0 hw [] r0 (cn + nn) tb kd vd h0 n0 Z0 Fc Fv Vd hcap) hZ (hq hw 109 rfl) (hq hw 75 rfl) (by decide) (by decide)) q3a q3c (g := (mkF m 21 #[rv r0, rv r1, iv nn] [(.int (cn + nn)), (.ref r0)])) rfl (by rw [hml]; rfl) (Steps.refl _) (argsL := [(.int (cn + nn))]) (rest := []) (lenOf pd_11 rfl) rfl (by show 2 * 0 + _ ≤ _; exact Nat.le_of_eq rfl) (hb hby d15_21) (fun _ _ => ⟨rfl, e2, (by decide : 0 + 0 ≤ _), (by decide : 0 + 0 ≤ _)⟩)
 dsimp only [Pt.U, Pt.locs, Pt.cells, Pt.slots] at X3 l3 y3 z3 st3 hQ3
 subst l3 y3 z3
 obtain ⟨rfl, N3q, eh3⟩ := hQ3
 have N3 := Fr.app N1 N3q
 obtain ⟨T4, X4, e4, st4⟩ := getF X3 hx hZ hown (host := "") (Or.inl (hq hw 103 rfl)) Via.refl eh3 Fn (g := (mkF m 26 #[rv r0, rv r1, iv nn] [(.ref r0), (.ref r0)])) rfl rfl (hb hby d15_26)
 obtain ⟨cq5, kq5, q5a, q5b, q5c⟩ := isOf hZ e4 E0
 obtain ⟨_, _, ⟨T5, L5, k5, n5⟩, -, X5, ⟨Lc5, hQ5, l5, y5, z5⟩, st5⟩ := X4.virtualBack hx (y := (⟨"java/lang/AbstractStringBuilder", "putStringAt", "(ILjava/lang/String;)V"⟩ : MethodName)) (z := (⟨"java/lang/AbstractStringBuilder", "putStringAt", "(ILjava/lang/String;)V"⟩ : MethodName)) hown (mvT hZ (hq hw 110 rfl)) (own_decl (mvT hZ (hq hw 111 rfl)) (mvT hZ (hq hw 114 rfl))) (notFace_of_selects (args := #[]) (mvT hZ (hq hw 113 rfl))) (mvT hZ (hq hw 113 rfl)) (mvT hZ (hq hw 111 rfl)) (by decide) (backOf (W := 0) (rm19 l Z a0 hw [] r0 cn r1 tb kd vd ta kk nn vs cst fv h0 n0 Z0 E0 Fc Fv Vd Ey Fcy Fvy V0 O0 g_tb dq_0b dq_1b dq_ab ok SS) hZ (hq hw 114 rfl) (hq hw 75 rfl) (by decide) (by decide)) q5a q5c (g := (mkF m 30 #[rv r0, rv r1, iv nn] [(.ref r1), (.int cn), (.ref r0)])) rfl (by rw [hml]; rfl) (Steps.refl _) (argsL := [(.int cn), (.ref r1)]) (rest := []) (lenOf pd_15 rfl) rfl (by show 2 * 0 + _ ≤ _; exact Nat.le_of_eq rfl) (hb hby d15_30) (fun _ _ => ⟨rfl, e4, (by decide : 0 + 0 ≤ _), (by decide : 0 + 0 ≤ _)⟩)
 dsimp only [Pt.U, Pt.locs, Pt.cells, Pt.slots] at X5 l5 y5 z5 st5 hQ5
 subst l5 y5 z5
 obtain ⟨rfl, N5q, K5, V5⟩ := hQ5
 have N5 := Fr.app N3 N5q
 have fa6 := E0.keep K5
 have fa7 := Fn.keep K5 (ninS dq_0b nin0)
 have fa8 := Fc.keep K5 (ninS dq_0b nin0)
 have fa9 := Fv.keep K5 (ninS dq_0b nin0)
 have fa10 := Ey.keep K5
 have fa11 := Fcy.keep K5 (ninS dq_1b nin0)
 have fa12 := Fvy.keep K5 (ninS dq_1b nin0)
 have fa13 := V0.keep K5 (ninS dq_ab nin0)
 have fa14 := O0.keep K5 (allS g_tb all0)
 have z15 : n0 ≤ T5.heap.size := Nat.le_trans Z0 K5.1
 have kp16 : Keep h0 T5.heap [r0, tb] := kp0.trans K5 (allS (Or.inl (List.mem_of_getElem? (i := 1) rfl)) all0)
 obtain ⟨T17, X17, e17, st17⟩ := getF X5 hx hZ hown (host := "") (Or.inl (hq hw 103 rfl)) Via.refl rfl fa7 (g := (mkF m 35 #[rv r0, rv r1, iv nn] [(.ref r0), (.ref r0)])) rfl rfl (hb hby d15_35)
 obtain ⟨T18, h18, X18, e18, W18, st18⟩ := putF X17 hx hZ hown (host := "") (Or.inl (hq hw 103 rfl)) Via.refl e17 fa7 fa6 (Or.inl (hq hw 104 rfl)) (hq hw 66 rfl) (ty := .int) (by decide) rfl rfl (g := (mkF m 40 #[rv r0, rv r1, iv nn] [(.int (cn + nn)), (.ref r0)])) rfl rfl (hb hby d15_40)
 have fa19 := fa6.wr W18
 have fa20 : Fld Z h18 r0 "java/lang/AbstractStringBuilder" "count" "I" (.int (cn + nn)) := fa7.same W18
 have fa21 := fa8.other W18 (Or.inr (slot_ne (Or.inl (hq hw 82 rfl)) (Or.inl (hq hw 104 rfl)) (by decide) (t := .byte) (t' := .int) (by decide) (by decide)))
 have fa22 := fa9.other W18 (Or.inr (slot_ne (Or.inl (hq hw 80 rfl)) (Or.inl (hq hw 104 rfl)) (by decide) (t := (.array .byte)) (t' := .int) (by decide) (by decide)))
 have fa23 := fa10.wr W18
 have fa24 := fa11.other W18 (Or.inl (Ne.symm dq_01))
 have fa25 := fa12.other W18 (Or.inl (Ne.symm dq_01))
 have fa26 := fa13.other W18 (Ne.symm dq_0a)
 have fa27 := fa14.wr W18 g_r0
 have fa28 := V5.other W18 (Ne.symm dq_0b)
 have z29 : n0 ≤ h18.size := Nat.le_trans z15 (Nat.le_of_eq W18.size.symm)
 have kp30 : Keep h0 h18 [r0, tb] := kp16.wr W18 (Or.inl (List.mem_of_getElem? (i := 0) rfl))
 have N18 := Fr.snoc X18 N5 g_r0
 obtain ⟨fs, hr, hrun, hended, hW, hsame⟩ := X18.leave (v := some (.ref r0)) (fun h => by rw [Bd.returns] at h; cases h)
 refine ⟨_, _, G0 _ ?_, hrun, hended, _, _, rfl, ?_, ⟨_, rfl⟩, hW, hsame.mono (by decide) (by decide)⟩
 ·skip
  refine XS.aloadN X0.here hx rfl (hb hby d15_0) rfl rfl ?_
  refine XS.ifnonnullYes X0.here hx rfl (pc0 := 1) (pc' := 9) rfl (hb hby d15_1) rfl (by decide) (by decide) ?_
  refine XS.aloadN X0.here hx rfl (hb hby d15_9) rfl rfl ?_
  refine st1.trans ?_
  refine XS.istoreN X1.here hx rfl (hb hby d15_13) rfl (l' := #[rv r0, rv r1, iv nn]) rfl ?_
  refine XS.aloadN X1.here hx rfl (hb hby d15_14) rfl rfl ?_
  refine XS.aloadN X1.here hx rfl (hb hby d15_15) rfl rfl ?_
  refine st2 _ ?_
  refine XS.iloadN X2.here hx rfl (hb hby d15_19) rfl ?_
  refine XS.iadd X2.here hx rfl (hb hby d15_20) rfl ?_
  refine st3.trans ?_
  refine XS.aloadN X3.here hx rfl (hb hby d15_24) rfl rfl ?_
  refine XS.aloadN X3.here hx rfl (hb hby d15_25) rfl rfl ?_
  refine st4 _ ?_
  refine XS.aloadN X4.here hx rfl (hb hby d15_29) rfl rfl ?_
  refine st5.trans ?_
  refine XS.aloadN X5.here hx rfl (hb hby d15_33) rfl rfl ?_
  refine XS.dup X5.here hx rfl (hb hby d15_34) rfl rfl ?_
  refine st17 _ ?_
  show Steps p.tables e below (T17.setTop (mkF m 38 #[rv r0, rv r1, iv nn] [(.int cn), (.ref r0)])) _
  refine XS.iloadN X17.here hx rfl (hb hby d15_38) rfl ?_
  refine XS.iadd X17.here hx rfl (hb hby d15_39) rfl ?_
  refine st18 _ ?_
  refine XS.aloadN X18.here hx rfl (hb hby d15_43) rfl rfl ?_
  exact retOut X18 hx Bd.returns rfl (Or.inr (Or.inr (Or.inr (Or.inr ⟨rfl, rfl, rfl⟩)))) (hb hby d15_44) hr
 ·show Q15 Z r0 r1 tb kd vd cn ta kk nn vs cst fv h0 n0 _ T18.heap _
  rw [e18]
  exact ⟨rfl, N18, kp30, fa20, fa21, fa22, fa28⟩
theorem d14_0 : decode jdk_67_method_7_code 0 = .ok (.aload_n 0, 1) := by decide +kernel
theorem d14_1 : decode jdk_67_method_7_code 1 = .ok (.aload_n 1, 1) := by decide +kernel
theorem d14_2 : decode jdk_67_method_7_code 2 = .ok (.invokespecial 29, 3) := by decide +kernel
theorem pd_16 : parseMethodDescriptor "(Ljava/lang/String;)Ljava/lang/AbstractStringBuilder;" = some ⟨[(.object "java/lang/String")], some (.object "java/lang/AbstractStringBuilder")⟩ := by decide +kernel
theorem d14_5 : decode jdk_67_method_7_code 5 = .ok (.pop, 1) := by decide +kernel
theorem d14_6 : decode jdk_67_method_7_code 6 = .ok (.aload_n 0, 1) := by decide +kernel
theorem d14_7 : decode jdk_67_method_7_code 7 = .ok (.areturn, 1) := by decide +kernel
def Q14 (Z : State) (r0 : Addr) (r1 : Addr) (tb : Addr) (kd : ClassId) (vd : List Value) (cn : Int32) (ta : Addr) (kk : ClassId) (nn : Int32) (vs : List Value) (cst : Int32) (fv : Value) (h0 : Heap) (n0 : Nat) (v : Option Value) (h : Heap) (L : List Loc) : Prop := v = some (.ref r0) ∧ Fr n0 L ∧ Keep h0 h [r0, tb] ∧ Fld Z h r0 "java/lang/AbstractStringBuilder" "count" "I" (.int (cn + nn)) ∧ Fld Z h r0 "java/lang/AbstractStringBuilder" "coder" "B" (.int (0 : Int32)) ∧ Fld Z h r0 "java/lang/AbstractStringBuilder" "value" "[B" (.ref tb) ∧ Arv Z h tb kd .byte (16 : Int32) (own_cp vd vs (cn <<< ((0 : Int32) &&& 31)) nn) (.int (0 : Int32))
theorem ef_rm14 (m : MethodId) (x0 : Addr) (x1 : Addr) : entryFrame m #[(.ref x0), (.ref x1)] 2 = mkF m 0 #[.val (.ref x0), .val (.ref x1)] [] := by first | (simp [entryFrame, mkF, argsToLocals, Value.category]; done) | rfl
set_option maxRecDepth 65536 in
set_option maxHeartbeats 40000000 in
theorem rm14 (l : Launch) (Z : State) (a0 : Array Value) (hw : ∀ d ∈ tables_1, d.before a0 Z = true) (ws : List Jvm.Cond) (r0 : Addr) (r1 : Addr) (tb : Addr) (kd : ClassId) (vd : List Value) (cn : Int32) (ta : Addr) (kk : ClassId) (nn : Int32) (vs : List Value) (cst : Int32) (fv : Value) (h0 : Heap) (n0 : Nat) (Z0 : n0 ≤ h0.size) (E0 : Exa Z h0 r0 "java/lang/StringBuilder") (Fn : Fld Z h0 r0 "java/lang/AbstractStringBuilder" "count" "I" (.int cn)) (Fc : Fld Z h0 r0 "java/lang/AbstractStringBuilder" "coder" "B" (.int (0 : Int32))) (Fv : Fld Z h0 r0 "java/lang/AbstractStringBuilder" "value" "[B" (.ref tb)) (Vd : Arv Z h0 tb kd .byte (16 : Int32) vd (.int (0 : Int32))) (Ey : Exa Z h0 r1 "java/lang/String") (Fcy : Fld Z h0 r1 "java/lang/String" "coder" "B" (.int (0 : Int32))) (Fvy : Fld Z h0 r1 "java/lang/String" "value" "[B" (.ref ta)) (V0 : Arv Z h0 ta kk .byte nn vs (.int (0 : Int32))) (O0 : Old Z n0 h0) (g_r0 : n0 ≤ r0) (g_tb : n0 ≤ tb) (dq_0b : r0 ≠ tb) (dq_1b : r1 ≠ tb) (dq_ab : ta ≠ tb) (dq_01 : r0 ≠ r1) (dq_0a : r0 ≠ ta) (hcap : ¬ ((0 : Int32) < ((cn + nn) - (16 : Int32)))) (ok : own_ok (cn <<< ((0 : Int32) &&& 31)) nn nn (16 : Int32) vd.length) (SS : Sts Z cst fv) :
  MetFree l (⟨"java/lang/StringBuilder", "append", "(Ljava/lang/String;)Ljava/lang/StringBuilder;"⟩ : MethodName) (head1 (Jvm.Cond.code (⟨"java/lang/StringBuilder", "append", "(Ljava/lang/String;)Ljava/lang/StringBuilder;"⟩ : MethodName) jdk_67_method_7_code 2 (some (.object "java/lang/StringBuilder")) :: ws) ({ frames := 4, cells := 0, slots := 0, locals := 61 } : Room)) (fun a U => a = #[(.ref r0), (.ref r1)] ∧ Z.Warmed39 U.vm ∧ U.heap = h0) (fun _ _ _ _ _ => True) (fun _ U o U' => ∃ v L, o = .returned v ∧ Q14 Z r0 r1 tb kd vd cn ta kk nn vs cst fv h0 n0 v U'.heap L ∧ FrameEnd U o U' L ({ frames := 4, cells := 0, slots := 0, locals := 61 } : Room).cells ({ frames := 4, cells := 0, slots := 0, locals := 61 } : Room).slots) := by
 refine MetFree.of_bodySF (plainFor_of_name pnc_java_lang_StringBuilder) hisR ?_
 intro p e s m args below meth c s₁ Bd hml0 hP hK
 obtain ⟨rfl, hZ, hh⟩ := hP
 have hx := Bd.exec
 have hby := Bd.bytes
 have hml : c.maxLocals = 2 := hml0
 have hown : s.vm.findClass "java/lang/StringBuilder" = some m.cls := findClass_of_methodNamed Bd.named
 have hnm := (name_of_methodNamed Bd.named Bd.method).1
 have X0 : Stand p l e ({ frames := 4, cells := 0, slots := 0, locals := 61 } : Room) s m #[(.ref r0), (.ref r1)] below meth c s₁ [] 0 0 := Stand.of_body Bd
 have e0 : s₁.heap = h0 := by rw [← hh, Bd.state]; rfl
 have N0 := Fr.nil n0
 have kp0 : Keep h0 h0 [r0, tb] := Keep.refl _ _
 have G0 : ∀ t, Steps p.tables e below (s₁.setTop (mkF m 0 #[rv r0, rv r1] [])) t → Steps p.tables e below (s₁.setTop (entryFrame m #[(.ref r0), (.ref r1)] 2)) t := fun t k => castTop (ef_rm14 m r0 r1) k
 obtain ⟨_, _, ⟨T1, L1, k1, n1⟩, -, X1, ⟨Lc1, hQ1, l1, y1, z1⟩, st1⟩ := superBack X0 hx hZ (y := (⟨"java/lang/AbstractStringBuilder", "append", "(Ljava/lang/String;)Ljava/lang/AbstractStringBuilder;"⟩ : MethodName)) hown (hq hw 88 rfl) (own_same (hq hw 89 rfl) (own_nf (hq hw 159 rfl) (hq hw 158 rfl) rfl) (by decide)) (hq hw 89 rfl) (hq hw 90 rfl) (by decide) (backOf (W := 0) (rm15 l Z a0 hw [] r0 r1 tb kd vd cn ta kk nn vs cst fv h0 n0 Z0 E0 Fn Fc Fv Vd Ey Fcy Fvy V0 O0 g_r0 g_tb dq_0b dq_1b dq_ab dq_01 dq_0a hcap ok SS) hZ (hq hw 92 rfl) (hq hw 75 rfl) (by decide) (by decide)) e0 (Ins.self E0) (g := (mkF m 2 #[rv r0, rv r1] [(.ref r1), (.ref r0)])) rfl (by rw [hml]; rfl) (hq hw 92 rfl) (argsL := [(.ref r1)]) (rest := []) (lenOf pd_16 rfl) rfl (by show 2 * 0 + _ ≤ _; exact Nat.le_of_eq rfl) (hb hby d14_2) (fun _ _ => ⟨rfl, e0, (by decide : 0 + 0 ≤ _), (by decide : 0 + 0 ≤ _)⟩)
 dsimp only [Pt.U, Pt.locs, Pt.cells, Pt.slots] at X1 l1 y1 z1 st1 hQ1
 subst l1 y1 z1
 obtain ⟨rfl, N1q, K1, Fn1, Fc1, Fv1, V1⟩ := hQ1
 have N1 := Fr.app N0 N1q
 have fa2 := E0.keep K1
 have fa3 := Ey.keep K1
 have fa4 := Fcy.keep K1 (ninS (Ne.symm dq_01) (ninS dq_1b nin0))
 have fa5 := Fvy.keep K1 (ninS (Ne.symm dq_01) (ninS dq_1b nin0))
 have fa6 := V0.keep K1 (ninS (Ne.symm dq_0a) (ninS dq_ab nin0))
 have fa7 := O0.keep K1 (allS g_r0 (allS g_tb all0))
 have z8 : n0 ≤ T1.heap.size := Nat.le_trans Z0 K1.1
 have kp9 : Keep h0 T1.heap [r0, tb] := kp0.trans K1 (allS (Or.inl (List.mem_of_getElem? (i := 0) rfl)) (allS (Or.inl (List.mem_of_getElem? (i := 1) rfl)) all0))
 obtain ⟨fs, hr, hrun, hended, hW, hsame⟩ := X1.leave (v := some (.ref r0)) (fun h => by rw [Bd.returns] at h; cases h)
 refine ⟨_, _, G0 _ ?_, hrun, hended, _, _, rfl, ?_, ⟨_, rfl⟩, hW, hsame.mono (by decide) (by decide)⟩
 ·skip
  refine XS.aloadN X0.here hx rfl (hb hby d14_0) rfl rfl ?_
  refine XS.aloadN X0.here hx rfl (hb hby d14_1) rfl rfl ?_
  refine st1.trans ?_
  refine XS.pop X1.here hx rfl (hb hby d14_5) rfl rfl ?_
  refine XS.aloadN X1.here hx rfl (hb hby d14_6) rfl rfl ?_
  exact retOut X1 hx Bd.returns rfl (Or.inr (Or.inr (Or.inr (Or.inr ⟨rfl, rfl, rfl⟩)))) (hb hby d14_7) hr
 ·show Q14 Z r0 r1 tb kd vd cn ta kk nn vs cst fv h0 n0 _ T1.heap _
  exact ⟨rfl, N1, kp9, Fn1, Fc1, Fv1, V1⟩
theorem d25_0 : decode jdk_68_method_64_code 0 = .ok (.aload_n 0, 1) := by decide +kernel
theorem d25_1 : decode jdk_68_method_64_code 1 = .ok (.getfield 15, 3) := by decide +kernel
theorem d25_4 : decode jdk_68_method_64_code 4 = .ok (.areturn, 1) := by decide +kernel
def Q25 (Z : State) (r0 : Addr) (tb : Addr) (h0 : Heap) (n0 : Nat) (v : Option Value) (h : Heap) (L : List Loc) : Prop := v = some (.ref tb) ∧ Fr n0 L ∧ h = h0
theorem ef_rm25 (m : MethodId) (x0 : Addr) : entryFrame m #[(.ref x0)] 1 = mkF m 0 #[.val (.ref x0)] [] := by first | (simp [entryFrame, mkF, argsToLocals, Value.category]; done) | rfl
set_option maxRecDepth 65536 in
set_option maxHeartbeats 40000000 in
theorem rm25 (l : Launch) (Z : State) (a0 : Array Value) (hw : ∀ d ∈ tables_1, d.before a0 Z = true) (ws : List Jvm.Cond) (r0 : Addr) (tb : Addr) (h0 : Heap) (n0 : Nat) (Z0 : n0 ≤ h0.size) (Fv : Fld Z h0 r0 "java/lang/AbstractStringBuilder" "value" "[B" (.ref tb)) :
  MetFree l (⟨"java/lang/AbstractStringBuilder", "getValue", "()[B"⟩ : MethodName) (head1 (Jvm.Cond.code (⟨"java/lang/AbstractStringBuilder", "getValue", "()[B"⟩ : MethodName) jdk_68_method_64_code 1 (some (.array .byte)) :: ws) ({ frames := 0, cells := 0, slots := 0, locals := 0 } : Room)) (fun a U => a = #[(.ref r0)] ∧ Z.Warmed39 U.vm ∧ U.heap = h0) (fun _ _ _ _ _ => True) (fun _ U o U' => ∃ v L, o = .returned v ∧ Q25 Z r0 tb h0 n0 v U'.heap L ∧ FrameEnd U o U' L ({ frames := 0, cells := 0, slots := 0, locals := 0 } : Room).cells ({ frames := 0, cells := 0, slots := 0, locals := 0 } : Room).slots) := by
 refine MetFree.of_bodySF (plainFor_of_name pnc_java_lang_AbstractStringBuilder) hisR ?_
 intro p e s m args below meth c s₁ Bd hml0 hP hK
 obtain ⟨rfl, hZ, hh⟩ := hP
 have hx := Bd.exec
 have hby := Bd.bytes
 have hml : c.maxLocals = 1 := hml0
 have hown : s.vm.findClass "java/lang/AbstractStringBuilder" = some m.cls := findClass_of_methodNamed Bd.named
 have hnm := (name_of_methodNamed Bd.named Bd.method).1
 have X0 : Stand p l e ({ frames := 0, cells := 0, slots := 0, locals := 0 } : Room) s m #[(.ref r0)] below meth c s₁ [] 0 0 := Stand.of_body Bd
 have e0 : s₁.heap = h0 := by rw [← hh, Bd.state]; rfl
 have N0 := Fr.nil n0
 have kp0 : Keep h0 h0 [] := Keep.refl _ _
 have G0 : ∀ t, Steps p.tables e below (s₁.setTop (mkF m 0 #[rv r0] [])) t → Steps p.tables e below (s₁.setTop (entryFrame m #[(.ref r0)] 1)) t := fun t k => castTop (ef_rm25 m r0) k
 obtain ⟨T1, X1, e1, st1⟩ := getF X0 hx hZ hown (host := "") (Or.inl (hq hw 79 rfl)) Via.refl e0 Fv (g := (mkF m 1 #[rv r0] [(.ref r0)])) rfl rfl (hb hby d25_1)
 obtain ⟨fs, hr, hrun, hended, hW, hsame⟩ := X1.leave (v := some (.ref tb)) (fun h => by rw [Bd.returns] at h; cases h)
 refine ⟨_, _, G0 _ ?_, hrun, hended, _, _, rfl, ?_, ⟨_, rfl⟩, hW, hsame.mono (by decide) (by decide)⟩
 ·skip
  refine XS.aloadN X0.here hx rfl (hb hby d25_0) rfl rfl ?_
  refine st1 _ ?_
  exact retOut X1 hx Bd.returns rfl (Or.inr (Or.inr (Or.inr (Or.inr ⟨rfl, rfl, rfl⟩)))) (hb hby d25_4) hr
 ·show Q25 Z r0 tb h0 n0 _ T1.heap _
  rw [e1]
  exact ⟨rfl, N0, rfl⟩
theorem d27_0 : decode jdk_68_method_6_code 0 = .ok (.aload_n 0, 1) := by decide +kernel
theorem d27_1 : decode jdk_68_method_6_code 1 = .ok (.getfield 79, 3) := by decide +kernel
theorem d27_4 : decode jdk_68_method_6_code 4 = .ok (.ireturn, 1) := by decide +kernel
def Q27 (Z : State) (r0 : Addr) (cn : Int32) (h0 : Heap) (n0 : Nat) (v : Option Value) (h : Heap) (L : List Loc) : Prop := v = some (.int cn) ∧ Fr n0 L ∧ h = h0
theorem ef_rm27 (m : MethodId) (x0 : Addr) : entryFrame m #[(.ref x0)] 1 = mkF m 0 #[.val (.ref x0)] [] := by first | (simp [entryFrame, mkF, argsToLocals, Value.category]; done) | rfl
set_option maxRecDepth 65536 in
set_option maxHeartbeats 40000000 in
theorem rm27 (l : Launch) (Z : State) (a0 : Array Value) (hw : ∀ d ∈ tables_1, d.before a0 Z = true) (ws : List Jvm.Cond) (r0 : Addr) (cn : Int32) (h0 : Heap) (n0 : Nat) (Z0 : n0 ≤ h0.size) (Fn : Fld Z h0 r0 "java/lang/AbstractStringBuilder" "count" "I" (.int cn)) :
  MetFree l (⟨"java/lang/AbstractStringBuilder", "length", "()I"⟩ : MethodName) (head1 (Jvm.Cond.code (⟨"java/lang/AbstractStringBuilder", "length", "()I"⟩ : MethodName) jdk_68_method_6_code 1 (some .int) :: ws) ({ frames := 0, cells := 0, slots := 0, locals := 0 } : Room)) (fun a U => a = #[(.ref r0)] ∧ Z.Warmed39 U.vm ∧ U.heap = h0) (fun _ _ _ _ _ => True) (fun _ U o U' => ∃ v L, o = .returned v ∧ Q27 Z r0 cn h0 n0 v U'.heap L ∧ FrameEnd U o U' L ({ frames := 0, cells := 0, slots := 0, locals := 0 } : Room).cells ({ frames := 0, cells := 0, slots := 0, locals := 0 } : Room).slots) := by
 refine MetFree.of_bodySF (plainFor_of_name pnc_java_lang_AbstractStringBuilder) hisR ?_
 intro p e s m args below meth c s₁ Bd hml0 hP hK
 obtain ⟨rfl, hZ, hh⟩ := hP
 have hx := Bd.exec
 have hby := Bd.bytes
 have hml : c.maxLocals = 1 := hml0
 have hown : s.vm.findClass "java/lang/AbstractStringBuilder" = some m.cls := findClass_of_methodNamed Bd.named
 have hnm := (name_of_methodNamed Bd.named Bd.method).1
 have X0 : Stand p l e ({ frames := 0, cells := 0, slots := 0, locals := 0 } : Room) s m #[(.ref r0)] below meth c s₁ [] 0 0 := Stand.of_body Bd
 have e0 : s₁.heap = h0 := by rw [← hh, Bd.state]; rfl
 have N0 := Fr.nil n0
 have kp0 : Keep h0 h0 [] := Keep.refl _ _
 have G0 : ∀ t, Steps p.tables e below (s₁.setTop (mkF m 0 #[rv r0] [])) t → Steps p.tables e below (s₁.setTop (entryFrame m #[(.ref r0)] 1)) t := fun t k => castTop (ef_rm27 m r0) k
 obtain ⟨T1, X1, e1, st1⟩ := getF X0 hx hZ hown (host := "") (Or.inl (hq hw 103 rfl)) Via.refl e0 Fn (g := (mkF m 1 #[rv r0] [(.ref r0)])) rfl rfl (hb hby d27_1)
 obtain ⟨fs, hr, hrun, hended, hW, hsame⟩ := X1.leave (v := some (.int cn)) (fun h => by rw [Bd.returns] at h; cases h)
 refine ⟨_, _, G0 _ ?_, hrun, hended, _, _, rfl, ?_, ⟨_, rfl⟩, hW, hsame.mono (by decide) (by decide)⟩
 ·skip
  refine XS.aloadN X0.here hx rfl (hb hby d27_0) rfl rfl ?_
  refine st1 _ ?_
  exact retI X1 hx Bd.returns (hb hby d27_4) hr
 ·show Q27 Z r0 cn h0 n0 _ T1.heap _
  rw [e1]
  exact ⟨rfl, N0, rfl⟩
theorem d26_0 : decode jdk_67_method_93_code 0 = .ok (.aload_n 0, 1) := by decide +kernel
theorem d26_1 : decode jdk_67_method_93_code 1 = .ok (.invokespecial 343, 3) := by decide +kernel
theorem d26_4 : decode jdk_67_method_93_code 4 = .ok (.ireturn, 1) := by decide +kernel
def Q26 (Z : State) (r0 : Addr) (cn : Int32) (h0 : Heap) (n0 : Nat) (v : Option Value) (h : Heap) (L : List Loc) : Prop := v = some (.int cn) ∧ Fr n0 L ∧ h = h0
theorem ef_rm26 (m : MethodId) (x0 : Addr) : entryFrame m #[(.ref x0)] 1 = mkF m 0 #[.val (.ref x0)] [] := by first | (simp [entryFrame, mkF, argsToLocals, Value.category]; done) | rfl
set_option maxRecDepth 65536 in
set_option maxHeartbeats 40000000 in
theorem rm26 (l : Launch) (Z : State) (a0 : Array Value) (hw : ∀ d ∈ tables_1, d.before a0 Z = true) (ws : List Jvm.Cond) (r0 : Addr) (cn : Int32) (h0 : Heap) (n0 : Nat) (Z0 : n0 ≤ h0.size) (E0 : Exa Z h0 r0 "java/lang/StringBuilder") (Fn : Fld Z h0 r0 "java/lang/AbstractStringBuilder" "count" "I" (.int cn)) :
  MetFree l (⟨"java/lang/StringBuilder", "length", "()I"⟩ : MethodName) (head1 (Jvm.Cond.code (⟨"java/lang/StringBuilder", "length", "()I"⟩ : MethodName) jdk_67_method_93_code 1 (some .int) :: ws) ({ frames := 1, cells := 0, slots := 0, locals := 12 } : Room)) (fun a U => a = #[(.ref r0)] ∧ Z.Warmed39 U.vm ∧ U.heap = h0) (fun _ _ _ _ _ => True) (fun _ U o U' => ∃ v L, o = .returned v ∧ Q26 Z r0 cn h0 n0 v U'.heap L ∧ FrameEnd U o U' L ({ frames := 1, cells := 0, slots := 0, locals := 12 } : Room).cells ({ frames := 1, cells := 0, slots := 0, locals := 12 } : Room).slots) := by
 refine MetFree.of_bodySF (plainFor_of_name pnc_java_lang_StringBuilder) hisR ?_
 intro p e s m args below meth c s₁ Bd hml0 hP hK
 obtain ⟨rfl, hZ, hh⟩ := hP
 have hx := Bd.exec
 have hby := Bd.bytes
 have hml : c.maxLocals = 1 := hml0
 have hown : s.vm.findClass "java/lang/StringBuilder" = some m.cls := findClass_of_methodNamed Bd.named
 have hnm := (name_of_methodNamed Bd.named Bd.method).1
 have X0 : Stand p l e ({ frames := 1, cells := 0, slots := 0, locals := 12 } : Room) s m #[(.ref r0)] below meth c s₁ [] 0 0 := Stand.of_body Bd
 have e0 : s₁.heap = h0 := by rw [← hh, Bd.state]; rfl
 have N0 := Fr.nil n0
 have kp0 : Keep h0 h0 [] := Keep.refl _ _
 have G0 : ∀ t, Steps p.tables e below (s₁.setTop (mkF m 0 #[rv r0] [])) t → Steps p.tables e below (s₁.setTop (entryFrame m #[(.ref r0)] 1)) t := fun t k => castTop (ef_rm26 m r0) k
 obtain ⟨_, _, ⟨T1, L1, k1, n1⟩, -, X1, ⟨Lc1, hQ1, l1, y1, z1⟩, st1⟩ := superBack X0 hx hZ (y := (⟨"java/lang/AbstractStringBuilder", "length", "()I"⟩ : MethodName)) hown (hq hw 154 rfl) (own_same (hq hw 150 rfl) (own_nf (hq hw 159 rfl) (hq hw 158 rfl) rfl) (by decide)) (hq hw 150 rfl) (hq hw 90 rfl) (by decide) (backOf (W := 0) (rm27 l Z a0 hw [] r0 cn h0 n0 Z0 Fn) hZ (hq hw 155 rfl) (hq hw 75 rfl) (by decide) (by decide)) e0 (Ins.self E0) (g := (mkF m 1 #[rv r0] [(.ref r0)])) rfl (by rw [hml]; rfl) (hq hw 155 rfl) (argsL := []) (rest := []) (lenOf pd_14 rfl) rfl (by show 2 * 0 + _ ≤ _; exact Nat.le_of_eq rfl) (hb hby d26_1) (fun _ _ => ⟨rfl, e0, (by decide : 0 + 0 ≤ _), (by decide : 0 + 0 ≤ _)⟩)
 dsimp only [Pt.U, Pt.locs, Pt.cells, Pt.slots] at X1 l1 y1 z1 st1 hQ1
 subst l1 y1 z1
 obtain ⟨rfl, N1q, eh1⟩ := hQ1
 have N1 := Fr.app N0 N1q
 obtain ⟨fs, hr, hrun, hended, hW, hsame⟩ := X1.leave (v := some (.int cn)) (fun h => by rw [Bd.returns] at h; cases h)
 refine ⟨_, _, G0 _ ?_, hrun, hended, _, _, rfl, ?_, ⟨_, rfl⟩, hW, hsame.mono (by decide) (by decide)⟩
 ·skip
  refine XS.aloadN X0.here hx rfl (hb hby d26_0) rfl rfl ?_
  refine st1.trans ?_
  exact retI X1 hx Bd.returns (hb hby d26_4) hr
 ·show Q26 Z r0 cn h0 n0 _ T1.heap _
  rw [eh1]
  exact ⟨rfl, N1, rfl⟩
theorem d28_0 : decode jdk_68_method_68_code 0 = .ok (.getstatic 18, 3) := by decide +kernel
theorem d28_3 : decode jdk_68_method_68_code 3 = .ok (.ifCond .eq 14, 3) := by decide +kernel
theorem d28_6 : decode jdk_68_method_68_code 6 = .ok (.aload_n 0, 1) := by decide +kernel
theorem d28_7 : decode jdk_68_method_68_code 7 = .ok (.getfield 22, 3) := by decide +kernel
theorem d28_10 : decode jdk_68_method_68_code 10 = .ok (.ifCond .ne 7, 3) := by decide +kernel
theorem d28_13 : decode jdk_68_method_68_code 13 = .ok (.iconst 1, 1) := by decide +kernel
theorem d28_14 : decode jdk_68_method_68_code 14 = .ok (.goto 4, 3) := by decide +kernel
theorem d28_18 : decode jdk_68_method_68_code 18 = .ok (.ireturn, 1) := by decide +kernel
def Q28 (Z : State) (r0 : Addr) (cst : Int32) (fv : Value) (h0 : Heap) (n0 : Nat) (v : Option Value) (h : Heap) (L : List Loc) : Prop := v = some (.int (1 : Int32)) ∧ Fr n0 L ∧ h = h0
theorem ef_rm28 (m : MethodId) (x0 : Addr) : entryFrame m #[(.ref x0)] 1 = mkF m 0 #[.val (.ref x0)] [] := by first | (simp [entryFrame, mkF, argsToLocals, Value.category]; done) | rfl
set_option maxRecDepth 65536 in
set_option maxHeartbeats 40000000 in
theorem rm28 (l : Launch) (Z : State) (a0 : Array Value) (hw : ∀ d ∈ tables_1, d.before a0 Z = true) (ws : List Jvm.Cond) (r0 : Addr) (cst : Int32) (fv : Value) (h0 : Heap) (n0 : Nat) (Z0 : n0 ≤ h0.size) (Fc : Fld Z h0 r0 "java/lang/AbstractStringBuilder" "coder" "B" (.int (0 : Int32))) (O0 : Old Z n0 h0) (SS : Sts Z cst fv) :
  MetFree l (⟨"java/lang/AbstractStringBuilder", "isLatin1", "()Z"⟩ : MethodName) (head1 (Jvm.Cond.code (⟨"java/lang/AbstractStringBuilder", "isLatin1", "()Z"⟩ : MethodName) jdk_68_method_68_code 1 (some .boolean) :: ws) ({ frames := 0, cells := 0, slots := 0, locals := 0 } : Room)) (fun a U => a = #[(.ref r0)] ∧ Z.Warmed39 U.vm ∧ U.heap = h0) (fun _ _ _ _ _ => True) (fun _ U o U' => ∃ v L, o = .returned v ∧ Q28 Z r0 cst fv h0 n0 v U'.heap L ∧ FrameEnd U o U' L ({ frames := 0, cells := 0, slots := 0, locals := 0 } : Room).cells ({ frames := 0, cells := 0, slots := 0, locals := 0 } : Room).slots) := by
 refine MetFree.of_bodySF (plainFor_of_name pnc_java_lang_AbstractStringBuilder) hisR ?_
 intro p e s m args below meth c s₁ Bd hml0 hP hK
 obtain ⟨rfl, hZ, hh⟩ := hP
 have hx := Bd.exec
 have hby := Bd.bytes
 have hml : c.maxLocals = 1 := hml0
 have hown : s.vm.findClass "java/lang/AbstractStringBuilder" = some m.cls := findClass_of_methodNamed Bd.named
 have hnm := (name_of_methodNamed Bd.named Bd.method).1
 have X0 : Stand p l e ({ frames := 0, cells := 0, slots := 0, locals := 0 } : Room) s m #[(.ref r0)] below meth c s₁ [] 0 0 := Stand.of_body Bd
 have e0 : s₁.heap = h0 := by rw [← hh, Bd.state]; rfl
 have N0 := Fr.nil n0
 have kp0 : Keep h0 h0 [] := Keep.refl _ _
 have G0 : ∀ t, Steps p.tables e below (s₁.setTop (mkF m 0 #[rv r0] [])) t → Steps p.tables e below (s₁.setTop (entryFrame m #[(.ref r0)] 1)) t := fun t k => castTop (ef_rm28 m r0) k
 obtain ⟨T1, X1, e1, st1⟩ := getS2 X0 hx hZ hown (host := "") (Or.inl (hq hw 78 rfl)) Via.refl e0 (SS.1.ext O0.2) (g := (mkF m 0 #[rv r0] [])) rfl (hb hby d28_0)
 have G2 : ∀ t, Steps p.tables e below (T1.setTop (mkF m 3 #[rv r0] [(.int cst)])) t → Steps p.tables e below (s₁.setTop (entryFrame m #[(.ref r0)] 1)) t := by
  intro t kt
  refine G0 _ ?_
  refine st1 _ ?_
  exact kt
 have hc3_3 : ¬ (cst = (0 : Int32)) := SS.2.1
 obtain ⟨T4, X4, e4, st4⟩ := getF X1 hx hZ hown (host := "") (Or.inl (hq hw 81 rfl)) Via.refl e1 Fc (g := (mkF m 7 #[rv r0] [(.ref r0)])) rfl rfl (hb hby d28_7)
 have G5 : ∀ t, Steps p.tables e below (T4.setTop (mkF m 10 #[rv r0] [(.int (0 : Int32))])) t → Steps p.tables e below (s₁.setTop (entryFrame m #[(.ref r0)] 1)) t := by
  intro t kt
  refine G2 _ ?_
  refine XS.ifNo X1.here hx rfl (hb hby d28_3) rfl ((if0 _ _).trans (feq hc3_3).1) ?_
  refine XS.aloadN X1.here hx rfl (hb hby d28_6) rfl rfl ?_
  refine st4 _ ?_
  exact kt
 obtain ⟨fs, hr, hrun, hended, hW, hsame⟩ := X4.leave (v := some (.int (1 : Int32))) (fun h => by rw [Bd.returns] at h; cases h)
 refine ⟨_, _, G5 _ ?_, hrun, hended, _, _, rfl, ?_, ⟨_, rfl⟩, hW, hsame.mono (by decide) (by decide)⟩
 ·skip
  refine XS.ifNo X4.here hx rfl (hb hby d28_10) rfl ((if0 _ _).trans (teq (by decide)).2) ?_
  refine XS.iconst X4.here hx rfl (hb hby d28_13) ?_
  refine XS.goto X4.here hx rfl (pc0 := 14) (pc' := 18) rfl (hb hby d28_14) (by decide) (by decide) ?_
  exact retN X4 hx (t := .boolean) Bd.returns (by simp) (hb hby d28_18) hr
 ·show Q28 Z r0 cst fv h0 n0 _ T4.heap _
  rw [e4]
  exact ⟨rfl, N0, rfl⟩
theorem d31_0 : decode jdk_65_method_131_code 0 = .ok (.iload_n 1, 1) := by decide +kernel
theorem d31_1 : decode jdk_65_method_131_code 1 = .ok (.iload_n 0, 1) := by decide +kernel
theorem d31_2 : decode jdk_65_method_131_code 2 = .ok (.if_icmp .ge 35, 3) := by decide +kernel
theorem d31_37 : decode jdk_65_method_131_code 37 = .ok (.return_, 1) := by decide +kernel
def Q31 (Z : State) (p0 : Int32) (p1 : Int32) (h0 : Heap) (n0 : Nat) (v : Option Value) (h : Heap) (L : List Loc) : Prop := v = none ∧ Fr n0 L ∧ h = h0
theorem ef_rm31 (m : MethodId) (x0 : Int32) (x1 : Int32) : entryFrame m #[(.int x0), (.int x1)] 2 = mkF m 0 #[.val (.int x0), .val (.int x1)] [] := by first | (simp [entryFrame, mkF, argsToLocals, Value.category]; done) | rfl
theorem pnc_java_util_Arrays : plainName "java/util/Arrays" = true := by first | (simp [plainName, overriddenIn]; done) | decide +kernel
set_option maxRecDepth 65536 in
set_option maxHeartbeats 40000000 in
theorem rm31 (l : Launch) (Z : State) (a0 : Array Value) (hw : ∀ d ∈ tables_1, d.before a0 Z = true) (ws : List Jvm.Cond) (p0 : Int32) (p1 : Int32) (h0 : Heap) (n0 : Nat) (Z0 : n0 ≤ h0.size) (hge : ¬ (p1 < p0)) :
  MetFree l (⟨"java/util/Arrays", "checkLength", "(II)V"⟩ : MethodName) (head1 (Jvm.Cond.code (⟨"java/util/Arrays", "checkLength", "(II)V"⟩ : MethodName) jdk_65_method_131_code 2 none :: ws) ({ frames := 0, cells := 0, slots := 0, locals := 0 } : Room)) (fun a U => a = #[(.int p0), (.int p1)] ∧ Z.Warmed39 U.vm ∧ U.heap = h0) (fun _ _ _ _ _ => True) (fun _ U o U' => ∃ v L, o = .returned v ∧ Q31 Z p0 p1 h0 n0 v U'.heap L ∧ FrameEnd U o U' L ({ frames := 0, cells := 0, slots := 0, locals := 0 } : Room).cells ({ frames := 0, cells := 0, slots := 0, locals := 0 } : Room).slots) := by
 refine MetFree.of_bodySF (plainFor_of_name pnc_java_util_Arrays) hisR ?_
 intro p e s m args below meth c s₁ Bd hml0 hP hK
 obtain ⟨rfl, hZ, hh⟩ := hP
 have hx := Bd.exec
 have hby := Bd.bytes
 have hml : c.maxLocals = 2 := hml0
 have hown : s.vm.findClass "java/util/Arrays" = some m.cls := findClass_of_methodNamed Bd.named
 have hnm := (name_of_methodNamed Bd.named Bd.method).1
 have X0 : Stand p l e ({ frames := 0, cells := 0, slots := 0, locals := 0 } : Room) s m #[(.int p0), (.int p1)] below meth c s₁ [] 0 0 := Stand.of_body Bd
 have e0 : s₁.heap = h0 := by rw [← hh, Bd.state]; rfl
 have N0 := Fr.nil n0
 have kp0 : Keep h0 h0 [] := Keep.refl _ _
 have G0 : ∀ t, Steps p.tables e below (s₁.setTop (mkF m 0 #[iv p0, iv p1] [])) t → Steps p.tables e below (s₁.setTop (entryFrame m #[(.int p0), (.int p1)] 2)) t := fun t k => castTop (ef_rm31 m p0 p1) k
 have G1 : ∀ t, Steps p.tables e below (s₁.setTop (mkF m 2 #[iv p0, iv p1] [(.int p0), (.int p1)])) t → Steps p.tables e below (s₁.setTop (entryFrame m #[(.int p0), (.int p1)] 2)) t := by
  intro t kt
  refine G0 _ ?_
  refine XS.iloadN X0.here hx rfl (hb hby d31_0) rfl ?_
  refine XS.iloadN X0.here hx rfl (hb hby d31_1) rfl ?_
  exact kt
 have hc2_2 : ¬ (p1 < p0) := hge
 obtain ⟨fs, hr, hrun, hended, hW, hsame⟩ := X0.leave (v := none) (fun _ => rfl)
 refine ⟨_, _, G1 _ ?_, hrun, hended, _, _, rfl, ?_, ⟨_, rfl⟩, hW, hsame.mono (by decide) (by decide)⟩
 ·skip
  refine XS.icmpYes X0.here hx rfl (pc0 := 2) (pc' := 37) rfl (hb hby d31_2) rfl (flt hc2_2).2.1 (by decide) (by decide) ?_
  exact X0.returnOut hx Bd.returns (hb hby d31_37) hr
 ·show Q31 Z p0 p1 h0 n0 _ s₁.heap _
  rw [e0]
  exact ⟨rfl, N0, rfl⟩
theorem d32_0 : decode jdk_29_method_69_code 0 = .ok (.iload_n 0, 1) := by decide +kernel
theorem d32_1 : decode jdk_29_method_69_code 1 = .ok (.iload_n 1, 1) := by decide +kernel
theorem d32_2 : decode jdk_29_method_69_code 2 = .ok (.if_icmp .gt 7, 3) := by decide +kernel
theorem d32_9 : decode jdk_29_method_69_code 9 = .ok (.iload_n 1, 1) := by decide +kernel
theorem d32_10 : decode jdk_29_method_69_code 10 = .ok (.ireturn, 1) := by decide +kernel
theorem d32_5 : decode jdk_29_method_69_code 5 = .ok (.iload_n 0, 1) := by decide +kernel
theorem d32_6 : decode jdk_29_method_69_code 6 = .ok (.goto 4, 3) := by decide +kernel
def fmin (p0 : Int32) (p1 : Int32) : Int32 := if p1 < p0 then (p1) else (p0)
def Q32 (Z : State) (p0 : Int32) (p1 : Int32) (h0 : Heap) (n0 : Nat) (v : Option Value) (h : Heap) (L : List Loc) : Prop := v = some (.int (fmin p0 p1)) ∧ Fr n0 L ∧ h = h0
theorem ef_rm32 (m : MethodId) (x0 : Int32) (x1 : Int32) : entryFrame m #[(.int x0), (.int x1)] 2 = mkF m 0 #[.val (.int x0), .val (.int x1)] [] := by first | (simp [entryFrame, mkF, argsToLocals, Value.category]; done) | rfl
set_option maxRecDepth 65536 in
set_option maxHeartbeats 40000000 in
theorem rm32 (l : Launch) (Z : State) (a0 : Array Value) (hw : ∀ d ∈ tables_1, d.before a0 Z = true) (ws : List Jvm.Cond) (p0 : Int32) (p1 : Int32) (h0 : Heap) (n0 : Nat) (Z0 : n0 ≤ h0.size) :
  MetFree l (⟨"java/lang/Math", "min", "(II)I"⟩ : MethodName) (head1 (Jvm.Cond.code (⟨"java/lang/Math", "min", "(II)I"⟩ : MethodName) jdk_29_method_69_code 2 (some .int) :: ws) ({ frames := 0, cells := 0, slots := 0, locals := 0 } : Room)) (fun a U => a = #[(.int p0), (.int p1)] ∧ Z.Warmed39 U.vm ∧ U.heap = h0) (fun _ _ _ _ _ => True) (fun _ U o U' => ∃ v L, o = .returned v ∧ Q32 Z p0 p1 h0 n0 v U'.heap L ∧ FrameEnd U o U' L ({ frames := 0, cells := 0, slots := 0, locals := 0 } : Room).cells ({ frames := 0, cells := 0, slots := 0, locals := 0 } : Room).slots) := by
 refine MetFree.of_bodySF (Jvm.Free.JP.mathPlain rfl (by decide +kernel)) hisR ?_
 intro p e s m args below meth c s₁ Bd hml0 hP hK
 obtain ⟨rfl, hZ, hh⟩ := hP
 have hx := Bd.exec
 have hby := Bd.bytes
 have hml : c.maxLocals = 2 := hml0
 have hown : s.vm.findClass "java/lang/Math" = some m.cls := findClass_of_methodNamed Bd.named
 have hnm := (name_of_methodNamed Bd.named Bd.method).1
 have X0 : Stand p l e ({ frames := 0, cells := 0, slots := 0, locals := 0 } : Room) s m #[(.int p0), (.int p1)] below meth c s₁ [] 0 0 := Stand.of_body Bd
 have e0 : s₁.heap = h0 := by rw [← hh, Bd.state]; rfl
 have N0 := Fr.nil n0
 have kp0 : Keep h0 h0 [] := Keep.refl _ _
 have G0 : ∀ t, Steps p.tables e below (s₁.setTop (mkF m 0 #[iv p0, iv p1] [])) t → Steps p.tables e below (s₁.setTop (entryFrame m #[(.int p0), (.int p1)] 2)) t := fun t k => castTop (ef_rm32 m p0 p1) k
 have G1 : ∀ t, Steps p.tables e below (s₁.setTop (mkF m 2 #[iv p0, iv p1] [(.int p1), (.int p0)])) t → Steps p.tables e below (s₁.setTop (entryFrame m #[(.int p0), (.int p1)] 2)) t := by
  intro t kt
  refine G0 _ ?_
  refine XS.iloadN X0.here hx rfl (hb hby d32_0) rfl ?_
  refine XS.iloadN X0.here hx rfl (hb hby d32_1) rfl ?_
  exact kt
 by_cases hc2_2 : p1 < p0
 ·skip
  obtain ⟨fs, hr, hrun, hended, hW, hsame⟩ := X0.leave (v := some (.int p1)) (fun h => by rw [Bd.returns] at h; cases h)
  refine ⟨_, _, G1 _ ?_, hrun, hended, _, _, rfl, ?_, ⟨_, rfl⟩, hW, hsame.mono (by decide) (by decide)⟩
  ·skip
   refine XS.icmpYes X0.here hx rfl (pc0 := 2) (pc' := 9) rfl (hb hby d32_2) rfl (tlt hc2_2).2.2.1 (by decide) (by decide) ?_
   refine XS.iloadN X0.here hx rfl (hb hby d32_9) rfl ?_
   exact retI X0 hx Bd.returns (hb hby d32_10) hr
  ·show Q32 Z p0 p1 h0 n0 _ s₁.heap _
   rw [e0]
   exact ⟨by rw [fmin, if_pos hc2_2], N0, rfl⟩
 ·skip
  obtain ⟨fs, hr, hrun, hended, hW, hsame⟩ := X0.leave (v := some (.int p0)) (fun h => by rw [Bd.returns] at h; cases h)
  refine ⟨_, _, G1 _ ?_, hrun, hended, _, _, rfl, ?_, ⟨_, rfl⟩, hW, hsame.mono (by decide) (by decide)⟩
  ·skip
   refine XS.icmpNo X0.here hx rfl (hb hby d32_2) rfl (flt hc2_2).2.2.1 ?_
   refine XS.iloadN X0.here hx rfl (hb hby d32_5) rfl ?_
   refine XS.goto X0.here hx rfl (pc0 := 6) (pc' := 10) rfl (hb hby d32_6) (by decide) (by decide) ?_
   exact retI X0 hx Bd.returns (hb hby d32_10) hr
  ·show Q32 Z p0 p1 h0 n0 _ s₁.heap _
   rw [e0]
   exact ⟨by rw [fmin, if_neg hc2_2], N0, rfl⟩
def own_rs (vd : List Value) (p2 : Int32) : List Value := own_cp (List.replicate (p2 - (0 : Int32)).toNatClampNeg (.int (0 : Int32))) vd (0 : Int32) (fmin (16 : Int32) (p2 - (0 : Int32)))
def own_cr (p2 : Int32) : Prop := ¬ (p2 = (16 : Int32)) ∧ ¬ (p2 < (0 : Int32)) ∧ ¬ ((p2 - (0 : Int32)) < 0) ∧ (p2 - (0 : Int32)).toNatClampNeg ≤ 8 ∧ own_ok (0 : Int32) (fmin (16 : Int32) (p2 - (0 : Int32))) (16 : Int32) (p2 - (0 : Int32)) (List.replicate (p2 - (0 : Int32)).toNatClampNeg (Value.int (0 : Int32))).length
theorem own_mkcr {p2 : Int32} (h1 : ¬ (p2 = (16 : Int32))) (h2 : ¬ (p2 < (0 : Int32))) (h3 : ¬ ((p2 - (0 : Int32)) < 0)) (h4 : (p2 - (0 : Int32)).toNatClampNeg ≤ 8) (h5 : own_ok (0 : Int32) (fmin (16 : Int32) (p2 - (0 : Int32))) (16 : Int32) (p2 - (0 : Int32)) (List.replicate (p2 - (0 : Int32)).toNatClampNeg (Value.int (0 : Int32))).length) : own_cr p2 := ⟨h1, h2, h3, h4, h5⟩
theorem own_cr2 : own_cr (2 : Int32) := own_mkcr (by decide) (by decide) (by decide) (by decide) (own_mkok (by decide) (by decide) (by decide) (by decide) (by decide))
theorem own_cr3 : own_cr (3 : Int32) := own_mkcr (by decide) (by decide) (by decide) (by decide) (own_mkok (by decide) (by decide) (by decide) (by decide) (by decide))
theorem own_cr4 : own_cr (4 : Int32) := own_mkcr (by decide) (by decide) (by decide) (by decide) (own_mkok (by decide) (by decide) (by decide) (by decide) (by decide))
theorem own_cr5 : own_cr (5 : Int32) := own_mkcr (by decide) (by decide) (by decide) (by decide) (own_mkok (by decide) (by decide) (by decide) (by decide) (by decide))
theorem own_cr6 : own_cr (6 : Int32) := own_mkcr (by decide) (by decide) (by decide) (by decide) (own_mkok (by decide) (by decide) (by decide) (by decide) (by decide))
theorem own_cr7 : own_cr (7 : Int32) := own_mkcr (by decide) (by decide) (by decide) (by decide) (own_mkok (by decide) (by decide) (by decide) (by decide) (by decide))
theorem d30_0 : decode jdk_65_method_133_code 0 = .ok (.iload_n 1, 1) := by decide +kernel
theorem d30_1 : decode jdk_65_method_133_code 1 = .ok (.iload_n 2, 1) := by decide +kernel
theorem d30_2 : decode jdk_65_method_133_code 2 = .ok (.invokestatic 343, 3) := by decide +kernel
theorem d30_5 : decode jdk_65_method_133_code 5 = .ok (.iload_n 2, 1) := by decide +kernel
theorem d30_6 : decode jdk_65_method_133_code 6 = .ok (.iload_n 1, 1) := by decide +kernel
theorem d30_7 : decode jdk_65_method_133_code 7 = .ok (.isub, 1) := by decide +kernel
theorem d30_8 : decode jdk_65_method_133_code 8 = .ok (.istore_n 3, 1) := by decide +kernel
theorem d30_9 : decode jdk_65_method_133_code 9 = .ok (.iload_n 3, 1) := by decide +kernel
theorem d30_10 : decode jdk_65_method_133_code 10 = .ok (.newarray .byte, 2) := by decide +kernel
theorem d30_12 : decode jdk_65_method_133_code 12 = .ok (.astore 4, 2) := by decide +kernel
theorem d30_14 : decode jdk_65_method_133_code 14 = .ok (.aload_n 0, 1) := by decide +kernel
theorem d30_15 : decode jdk_65_method_133_code 15 = .ok (.iload_n 1, 1) := by decide +kernel
theorem d30_16 : decode jdk_65_method_133_code 16 = .ok (.aload 4, 2) := by decide +kernel
theorem d30_18 : decode jdk_65_method_133_code 18 = .ok (.iconst 0, 1) := by decide +kernel
theorem d30_19 : decode jdk_65_method_133_code 19 = .ok (.aload_n 0, 1) := by decide +kernel
theorem d30_20 : decode jdk_65_method_133_code 20 = .ok (.arraylength, 1) := by decide +kernel
theorem d30_21 : decode jdk_65_method_133_code 21 = .ok (.iload_n 1, 1) := by decide +kernel
theorem d30_22 : decode jdk_65_method_133_code 22 = .ok (.isub, 1) := by decide +kernel
theorem d30_23 : decode jdk_65_method_133_code 23 = .ok (.iload_n 3, 1) := by decide +kernel
theorem d30_24 : decode jdk_65_method_133_code 24 = .ok (.invokestatic 304, 3) := by decide +kernel
theorem pd_17 : parseMethodDescriptor "(II)I" = some ⟨[.int, .int], some .int⟩ := by decide +kernel
theorem d30_27 : decode jdk_65_method_133_code 27 = .ok (.invokestatic 150, 3) := by decide +kernel
theorem d30_30 : decode jdk_65_method_133_code 30 = .ok (.aload 4, 2) := by decide +kernel
theorem d30_32 : decode jdk_65_method_133_code 32 = .ok (.areturn, 1) := by decide +kernel
def Q30 (Z : State) (r0 : Addr) (p2 : Int32) (kd : ClassId) (vd : List Value) (h0 : Heap) (n0 : Nat) (v : Option Value) (h : Heap) (L : List Loc) : Prop := ∃ (b : Addr) (k : ClassId), v = some (.ref b) ∧ Fr n0 L ∧ Keep h0 h [] ∧ n0 ≤ b ∧ h0.size ≤ b ∧ Arv Z h b k .byte (p2 - (0 : Int32)) (own_rs vd p2) (.int (0 : Int32))
theorem ef_rm30 (m : MethodId) (x0 : Addr) (x1 : Int32) (x2 : Int32) : entryFrame m #[(.ref x0), (.int x1), (.int x2)] 5 = mkF m 0 #[.val (.ref x0), .val (.int x1), .val (.int x2), .unset, .unset] [] := by first | (simp [entryFrame, mkF, argsToLocals, Value.category]; done) | rfl
set_option maxRecDepth 65536 in
set_option maxHeartbeats 40000000 in
theorem rm30 (l : Launch) (Z : State) (a0 : Array Value) (hw : ∀ d ∈ tables_1, d.before a0 Z = true) (ws : List Jvm.Cond) (r0 : Addr) (p2 : Int32) (kd : ClassId) (vd : List Value) (h0 : Heap) (n0 : Nat) (Z0 : n0 ≤ h0.size) (Vd : Arv Z h0 r0 kd .byte (16 : Int32) vd (.int (0 : Int32))) (cr : own_cr p2) :
  MetFree l (⟨"java/util/Arrays", "copyOfRangeByte", "([BII)[B"⟩ : MethodName) (head1 (Jvm.Cond.code (⟨"java/util/Arrays", "copyOfRangeByte", "([BII)[B"⟩ : MethodName) jdk_65_method_133_code 5 (some (.array .byte)) :: ws) ({ frames := 1, cells := 1, slots := 8, locals := 18 } : Room)) (fun a U => a = #[(.ref r0), (.int (0 : Int32)), (.int p2)] ∧ Z.Warmed39 U.vm ∧ U.heap = h0) (fun _ _ _ _ _ => True) (fun _ U o U' => ∃ v L, o = .returned v ∧ Q30 Z r0 p2 kd vd h0 n0 v U'.heap L ∧ FrameEnd U o U' L ({ frames := 1, cells := 1, slots := 8, locals := 18 } : Room).cells ({ frames := 1, cells := 1, slots := 8, locals := 18 } : Room).slots) := by
 refine MetFree.of_bodySF (plainFor_of_name pnc_java_util_Arrays) hisR ?_
 intro p e s m args below meth c s₁ Bd hml0 hP hK
 obtain ⟨rfl, hZ, hh⟩ := hP
 have hx := Bd.exec
 have hby := Bd.bytes
 have hml : c.maxLocals = 5 := hml0
 have hown : s.vm.findClass "java/util/Arrays" = some m.cls := findClass_of_methodNamed Bd.named
 have hnm := (name_of_methodNamed Bd.named Bd.method).1
 have X0 : Stand p l e ({ frames := 1, cells := 1, slots := 8, locals := 18 } : Room) s m #[(.ref r0), (.int (0 : Int32)), (.int p2)] below meth c s₁ [] 0 0 := Stand.of_body Bd
 have e0 : s₁.heap = h0 := by rw [← hh, Bd.state]; rfl
 have N0 := Fr.nil n0
 have kp0 : Keep h0 h0 [] := Keep.refl _ _
 have G0 : ∀ t, Steps p.tables e below (s₁.setTop (mkF m 0 #[rv r0, iv 0, iv p2, .unset, .unset] [])) t → Steps p.tables e below (s₁.setTop (entryFrame m #[(.ref r0), (.int (0 : Int32)), (.int p2)] 5)) t := fun t k => castTop (ef_rm30 m r0 (0 : Int32) p2) k
 obtain ⟨_, _, ⟨T1, L1, k1, n1⟩, -, X1, ⟨Lc1, hQ1, l1, y1, z1⟩, st1⟩ := Jvm.LawKit.callS X0 hx (y := (⟨"java/util/Arrays", "checkLength", "(II)V"⟩ : MethodName)) hown (mvT hZ (hq hw 168 rfl)) (mvT hZ (hq hw 169 rfl)) (mvT hZ (hq hw 163 rfl)) (mvT hZ (hq hw 170 rfl)) (by decide) (backOf (W := 0) (rm31 l Z a0 hw [] (0 : Int32) p2  h0 n0 Z0 cr.2.1) hZ (hq hw 170 rfl) (hq hw 163 rfl) (by decide) (by decide)) (g := (mkF m 2 #[rv r0, iv 0, iv p2, .unset, .unset] [(.int p2), (.int (0 : Int32))])) rfl (by rw [hml]; rfl) (argsL := [(.int (0 : Int32)), (.int p2)]) (rest := []) (lenOf pd_2 rfl) rfl (by show 2 * 0 + _ ≤ _; exact Nat.le_of_eq rfl) (hb hby d30_2) (fun _ _ => ⟨rfl, e0, (by decide : 0 + 0 ≤ _), (by decide : 0 + 0 ≤ _)⟩)
 dsimp only [Pt.U, Pt.locs, Pt.cells, Pt.slots] at X1 l1 y1 z1 st1 hQ1
 subst l1 y1 z1
 obtain ⟨rfl, N1q, eh1⟩ := hQ1
 have N1 := Fr.app N0 N1q
 obtain ⟨T2, h2, k2, X2, e2, E2, A2, st2⟩ := newP X1 hx hZ (hq hw 19 rfl) eh1 (g := (mkF m 10 #[rv r0, iv 0, iv p2, iv (p2 - (0 : Int32)), .unset] [(.int (p2 - (0 : Int32)))])) rfl (hb hby d30_10) rfl cr.2.2.1 (cap := 8) cr.2.2.2.1 (by decide) (by decide) (by decide)
 obtain ⟨b2, g2⟩ : ∃ z, z = h0.size := ⟨_, rfl⟩
 rw [← g2] at A2 st2
 have g_b2 : n0 ≤ b2 := Nat.le_trans Z0 (Nat.le_of_eq g2.symm)
 have sz_b2 : h0.size ≤ b2 := Nat.le_trans kp0.1 (Nat.le_of_eq g2.symm)
 have ne_r0_b2 : r0 ≠ b2 := Nat.ne_of_lt (Nat.lt_of_lt_of_le Vd.lt (Nat.le_of_eq g2.symm))
 have fa3 := Vd.ext E2
 have z4 : n0 ≤ h2.size := Nat.le_trans Z0 E2.1
 have kp5 : Keep h0 h2 [] := kp0.ext E2
 have fa6 : Arv Z h2 b2 k2 .byte (p2 - (0 : Int32)) (List.replicate (p2 - (0 : Int32)).toNatClampNeg (.int (0 : Int32))) (.int (0 : Int32)) := (Arv.new A2 cr.2.2.1).pad (pad_rep [] (.int (0 : Int32)) _)
 obtain ⟨cl7, Ar7, q7, S7, M7, H7, G7⟩ := id fa3
 obtain ⟨_, _, ⟨T8, L8, k8, n8⟩, -, X8, ⟨Lc8, hQ8, l8, y8, z8⟩, st8⟩ := Jvm.LawKit.callS X2 hx (y := (⟨"java/lang/Math", "min", "(II)I"⟩ : MethodName)) hown (mvT hZ (hq hw 171 rfl)) (mvT hZ (hq hw 172 rfl)) (mvT hZ (hq hw 173 rfl)) (mvT hZ (hq hw 174 rfl)) (by decide) (backOf (W := 4) (rm32 l Z a0 hw [] (16 : Int32) (p2 - (0 : Int32))  h2 n0 z4 ) hZ (hq hw 174 rfl) (hq hw 173 rfl) (by decide) (by decide)) (g := (mkF m 24 #[rv r0, iv 0, iv p2, iv (p2 - (0 : Int32)), rv b2] [(.int (p2 - (0 : Int32))), (.int (16 : Int32)), (.int (0 : Int32)), (.ref b2), (.int (0 : Int32)), (.ref r0)])) rfl (by rw [hml]; rfl) (argsL := [(.int (16 : Int32)), (.int (p2 - (0 : Int32)))]) (rest := [(.int (0 : Int32)), (.ref b2), (.int (0 : Int32)), (.ref r0)]) (lenOf pd_17 rfl) rfl (by show 2 * 0 + _ ≤ _; exact Nat.le_of_eq rfl) (hb hby d30_24) (fun _ _ => ⟨rfl, e2, (by decide : 1 + 0 ≤ _), (by decide : 8 + 0 ≤ _)⟩)
 dsimp only [Pt.U, Pt.locs, Pt.cells, Pt.slots] at X8 l8 y8 z8 st8 hQ8
 subst l8 y8 z8
 obtain ⟨rfl, N8q, eh8⟩ := hQ8
 have N8 := Fr.app N1 N8q
 obtain ⟨T9, h9, L9, X9, e9, N9, K9, V9, st9⟩ := cpA X8 hx hZ hown (hq hw 175 rfl) (hq hw 129 rfl) (hq hw 127 rfl) (hq hw 128 rfl) eh8 fa3 fa6 (Or.inl ⟨rfl, rfl⟩) (sp := (0 : Int32)) (dp := (0 : Int32)) (nn := (fmin (16 : Int32) (p2 - (0 : Int32)))) (by decide) cr.2.2.2.2.1 cr.2.2.2.2.2.1 cr.2.2.2.2.2.2.1 cr.2.2.2.2.2.2.2.1 rfl cr.2.2.2.2.2.2.2.2 N8 g_b2 (g := (mkF m 27 #[rv r0, iv 0, iv p2, iv (p2 - (0 : Int32)), rv b2] [(.int (fmin (16 : Int32) (p2 - (0 : Int32)))), (.int (0 : Int32)), (.ref b2), (.int (0 : Int32)), (.ref r0)])) rfl (by rw [hml]; rfl) rfl (hb hby d30_27) (by decide) (W := 0) (by show 2 * 0 + _ ≤ _; exact Nat.le_of_eq rfl) (by decide)
 have fa10 := fa3.keep K9 (ninS ne_r0_b2 nin0)
 have z11 : n0 ≤ h9.size := Nat.le_trans z4 K9.1
 have kp12 : Keep h0 h9 [] := kp5.trans K9 (allS (Or.inr sz_b2) all0)
 have fa13 : Arv Z h9 b2 k2 .byte (p2 - (0 : Int32)) (own_rs vd p2) (.int (0 : Int32)) := V9
 obtain ⟨fs, hr, hrun, hended, hW, hsame⟩ := X9.leave (v := some (.ref b2)) (fun h => by rw [Bd.returns] at h; cases h)
 refine ⟨_, _, G0 _ ?_, hrun, hended, _, _, rfl, ?_, ⟨_, rfl⟩, hW, hsame.mono (by decide) (by decide)⟩
 ·skip
  refine XS.iloadN X0.here hx rfl (hb hby d30_0) rfl ?_
  refine XS.iloadN X0.here hx rfl (hb hby d30_1) rfl ?_
  refine st1 _ ?_
  refine XS.iloadN X1.here hx rfl (hb hby d30_5) rfl ?_
  refine XS.iloadN X1.here hx rfl (hb hby d30_6) rfl ?_
  refine XS.isub X1.here hx rfl (hb hby d30_7) rfl ?_
  refine XS.istoreN X1.here hx rfl (hb hby d30_8) rfl (l' := #[rv r0, iv 0, iv p2, iv (p2 - (0 : Int32)), .unset]) rfl ?_
  refine XS.iloadN X1.here hx rfl (hb hby d30_9) rfl ?_
  refine st2 _ ?_
  refine XS.astore X2.here hx rfl (hb hby d30_12) rfl rfl (l' := #[rv r0, iv 0, iv p2, iv (p2 - (0 : Int32)), rv b2]) rfl ?_
  refine XS.aloadN X2.here hx rfl (hb hby d30_14) rfl rfl ?_
  refine XS.iloadN X2.here hx rfl (hb hby d30_15) rfl ?_
  refine XS.aload X2.here hx rfl (hb hby d30_16) rfl rfl ?_
  refine XS.iconst X2.here hx rfl (hb hby d30_18) ?_
  refine XS.aloadN X2.here hx rfl (hb hby d30_19) rfl rfl ?_
  refine X2.arraylength hx (by rw [e2]; exact Ar7.1) (State.isArrayOf_alike hZ.alike Ar7.2.1) (g := (mkF m 20 #[rv r0, iv 0, iv p2, iv (p2 - (0 : Int32)), rv b2] [(.ref r0), (.int (0 : Int32)), (.ref b2), (.int (0 : Int32)), (.ref r0)])) rfl rfl (hb hby d30_20) _ ?_
  rw [len_of S7 M7]
  refine XS.iloadN X2.here hx rfl (hb hby d30_21) rfl ?_
  refine XS.isub X2.here hx rfl (hb hby d30_22) rfl ?_
  refine XS.iloadN X2.here hx rfl (hb hby d30_23) rfl ?_
  show Steps p.tables e below (T2.setTop (mkF m 24 #[rv r0, iv 0, iv p2, iv (p2 - (0 : Int32)), rv b2] [(.int (p2 - (0 : Int32))), (.int (16 : Int32)), (.int (0 : Int32)), (.ref b2), (.int (0 : Int32)), (.ref r0)])) _
  refine st8 _ ?_
  refine st9 _ ?_
  refine XS.aload X9.here hx rfl (hb hby d30_30) rfl rfl ?_
  exact retOut X9 hx Bd.returns rfl (Or.inr (Or.inr (Or.inr (Or.inr ⟨rfl, rfl, rfl⟩)))) (hb hby d30_32) hr
 ·show Q30 Z r0 p2 kd vd h0 n0 _ T9.heap _
  rw [e9]
  exact ⟨b2, k2, rfl, N9, kp12, g_b2, sz_b2, fa13⟩
theorem d29_0 : decode jdk_65_method_132_code 0 = .ok (.iload_n 1, 1) := by decide +kernel
theorem d29_1 : decode jdk_65_method_132_code 1 = .ok (.ifCond .ne 9, 3) := by decide +kernel
theorem d29_4 : decode jdk_65_method_132_code 4 = .ok (.iload_n 2, 1) := by decide +kernel
theorem d29_5 : decode jdk_65_method_132_code 5 = .ok (.aload_n 0, 1) := by decide +kernel
theorem d29_6 : decode jdk_65_method_132_code 6 = .ok (.arraylength, 1) := by decide +kernel
theorem d29_7 : decode jdk_65_method_132_code 7 = .ok (.if_icmp .eq 10, 3) := by decide +kernel
theorem d29_10 : decode jdk_65_method_132_code 10 = .ok (.aload_n 0, 1) := by decide +kernel
theorem d29_11 : decode jdk_65_method_132_code 11 = .ok (.iload_n 1, 1) := by decide +kernel
theorem d29_12 : decode jdk_65_method_132_code 12 = .ok (.iload_n 2, 1) := by decide +kernel
theorem d29_13 : decode jdk_65_method_132_code 13 = .ok (.invokestatic 339, 3) := by decide +kernel
theorem pd_18 : parseMethodDescriptor "([BII)[B" = some ⟨[(.array .byte), .int, .int], some (.array .byte)⟩ := by decide +kernel
theorem d29_16 : decode jdk_65_method_132_code 16 = .ok (.areturn, 1) := by decide +kernel
def Q29 (Z : State) (r0 : Addr) (p2 : Int32) (kd : ClassId) (vd : List Value) (h0 : Heap) (n0 : Nat) (v : Option Value) (h : Heap) (L : List Loc) : Prop := ∃ (b : Addr) (k : ClassId), v = some (.ref b) ∧ Fr n0 L ∧ Keep h0 h [] ∧ n0 ≤ b ∧ h0.size ≤ b ∧ Arv Z h b k .byte (p2 - (0 : Int32)) (own_rs vd p2) (.int (0 : Int32))
theorem ef_rm29 (m : MethodId) (x0 : Addr) (x1 : Int32) (x2 : Int32) : entryFrame m #[(.ref x0), (.int x1), (.int x2)] 3 = mkF m 0 #[.val (.ref x0), .val (.int x1), .val (.int x2)] [] := by first | (simp [entryFrame, mkF, argsToLocals, Value.category]; done) | rfl
set_option maxRecDepth 65536 in
set_option maxHeartbeats 40000000 in
theorem rm29 (l : Launch) (Z : State) (a0 : Array Value) (hw : ∀ d ∈ tables_1, d.before a0 Z = true) (ws : List Jvm.Cond) (r0 : Addr) (p2 : Int32) (kd : ClassId) (vd : List Value) (h0 : Heap) (n0 : Nat) (Z0 : n0 ≤ h0.size) (Vd : Arv Z h0 r0 kd .byte (16 : Int32) vd (.int (0 : Int32))) (cr : own_cr p2) :
  MetFree l (⟨"java/util/Arrays", "copyOfRange", "([BII)[B"⟩ : MethodName) (head1 (Jvm.Cond.code (⟨"java/util/Arrays", "copyOfRange", "([BII)[B"⟩ : MethodName) jdk_65_method_132_code 3 (some (.array .byte)) :: ws) ({ frames := 2, cells := 1, slots := 8, locals := 34 } : Room)) (fun a U => a = #[(.ref r0), (.int (0 : Int32)), (.int p2)] ∧ Z.Warmed39 U.vm ∧ U.heap = h0) (fun _ _ _ _ _ => True) (fun _ U o U' => ∃ v L, o = .returned v ∧ Q29 Z r0 p2 kd vd h0 n0 v U'.heap L ∧ FrameEnd U o U' L ({ frames := 2, cells := 1, slots := 8, locals := 34 } : Room).cells ({ frames := 2, cells := 1, slots := 8, locals := 34 } : Room).slots) := by
 refine MetFree.of_bodySF (plainFor_of_name pnc_java_util_Arrays) hisR ?_
 intro p e s m args below meth c s₁ Bd hml0 hP hK
 obtain ⟨rfl, hZ, hh⟩ := hP
 have hx := Bd.exec
 have hby := Bd.bytes
 have hml : c.maxLocals = 3 := hml0
 have hown : s.vm.findClass "java/util/Arrays" = some m.cls := findClass_of_methodNamed Bd.named
 have hnm := (name_of_methodNamed Bd.named Bd.method).1
 have X0 : Stand p l e ({ frames := 2, cells := 1, slots := 8, locals := 34 } : Room) s m #[(.ref r0), (.int (0 : Int32)), (.int p2)] below meth c s₁ [] 0 0 := Stand.of_body Bd
 have e0 : s₁.heap = h0 := by rw [← hh, Bd.state]; rfl
 have N0 := Fr.nil n0
 have kp0 : Keep h0 h0 [] := Keep.refl _ _
 have G0 : ∀ t, Steps p.tables e below (s₁.setTop (mkF m 0 #[rv r0, iv 0, iv p2] [])) t → Steps p.tables e below (s₁.setTop (entryFrame m #[(.ref r0), (.int (0 : Int32)), (.int p2)] 3)) t := fun t k => castTop (ef_rm29 m r0 (0 : Int32) p2) k
 have G1 : ∀ t, Steps p.tables e below (s₁.setTop (mkF m 1 #[rv r0, iv 0, iv p2] [(.int (0 : Int32))])) t → Steps p.tables e below (s₁.setTop (entryFrame m #[(.ref r0), (.int (0 : Int32)), (.int p2)] 3)) t := by
  intro t kt
  refine G0 _ ?_
  refine XS.iloadN X0.here hx rfl (hb hby d29_0) rfl ?_
  exact kt
 obtain ⟨cl2, Ar2, q2, S2, M2, H2, G2⟩ := id Vd
 have G3 : ∀ t, Steps p.tables e below (s₁.setTop (mkF m 7 #[rv r0, iv 0, iv p2] [(.int (16 : Int32)), (.int p2)])) t → Steps p.tables e below (s₁.setTop (entryFrame m #[(.ref r0), (.int (0 : Int32)), (.int p2)] 3)) t := by
  intro t kt
  refine G1 _ ?_
  refine XS.ifNo X0.here hx rfl (hb hby d29_1) rfl ((if0 _ _).trans (teq (by decide)).2) ?_
  refine XS.iloadN X0.here hx rfl (hb hby d29_4) rfl ?_
  refine XS.aloadN X0.here hx rfl (hb hby d29_5) rfl rfl ?_
  refine X0.arraylength hx (by rw [e0]; exact Ar2.1) (State.isArrayOf_alike hZ.alike Ar2.2.1) (g := (mkF m 6 #[rv r0, iv 0, iv p2] [(.ref r0), (.int p2)])) rfl rfl (hb hby d29_6) _ ?_
  rw [len_of S2 M2]
  exact kt
 have hc7_4 : ¬ (p2 = (16 : Int32)) := cr.1
 obtain ⟨_, _, ⟨T5, L5, k5, n5⟩, -, X5, ⟨Lc5, hQ5, l5, y5, z5⟩, st5⟩ := Jvm.LawKit.callS X0 hx (y := (⟨"java/util/Arrays", "copyOfRangeByte", "([BII)[B"⟩ : MethodName)) hown (mvT hZ (hq hw 165 rfl)) (mvT hZ (hq hw 166 rfl)) (mvT hZ (hq hw 163 rfl)) (mvT hZ (hq hw 167 rfl)) (by decide) (backOf (W := 0) (rm30 l Z a0 hw [] r0 p2 kd vd h0 n0 Z0 Vd cr) hZ (hq hw 167 rfl) (hq hw 163 rfl) (by decide) (by decide)) (g := (mkF m 13 #[rv r0, iv 0, iv p2] [(.int p2), (.int (0 : Int32)), (.ref r0)])) rfl (by rw [hml]; rfl) (argsL := [(.ref r0), (.int (0 : Int32)), (.int p2)]) (rest := []) (lenOf pd_18 rfl) rfl (by show 2 * 0 + _ ≤ _; exact Nat.le_of_eq rfl) (hb hby d29_13) (fun _ _ => ⟨rfl, e0, (by decide : 0 + 1 ≤ _), (by decide : 0 + 8 ≤ _)⟩)
 dsimp only [Pt.U, Pt.locs, Pt.cells, Pt.slots] at X5 l5 y5 z5 st5 hQ5
 subst l5 y5 z5
 obtain ⟨b5, kb5, rfl, N5q, K5, g_b5, sz5, V5⟩ := hQ5
 have N5 := Fr.app N0 N5q
 have szk5 : h0.size ≤ b5 := Nat.le_trans kp0.1 sz5
 have ne_r0_b5 : r0 ≠ b5 := Nat.ne_of_lt (Nat.lt_of_lt_of_le Vd.lt sz5)
 have fa6 := Vd.keep K5 nin0
 have z7 : n0 ≤ T5.heap.size := Nat.le_trans Z0 K5.1
 have kp8 : Keep h0 T5.heap [] := kp0.trans K5 all0
 obtain ⟨fs, hr, hrun, hended, hW, hsame⟩ := X5.leave (v := some (.ref b5)) (fun h => by rw [Bd.returns] at h; cases h)
 refine ⟨_, _, G3 _ ?_, hrun, hended, _, _, rfl, ?_, ⟨_, rfl⟩, hW, hsame.mono (by decide) (by decide)⟩
 ·skip
  refine XS.icmpNo X0.here hx rfl (hb hby d29_7) rfl (feq hc7_4).1 ?_
  refine XS.aloadN X0.here hx rfl (hb hby d29_10) rfl rfl ?_
  refine XS.iloadN X0.here hx rfl (hb hby d29_11) rfl ?_
  refine XS.iloadN X0.here hx rfl (hb hby d29_12) rfl ?_
  refine st5 _ ?_
  exact retOut X5 hx Bd.returns rfl (Or.inr (Or.inr (Or.inr (Or.inr ⟨rfl, rfl, rfl⟩)))) (hb hby d29_16) hr
 ·show Q29 Z r0 p2 kd vd h0 n0 _ T5.heap _
  exact ⟨b5, kb5, rfl, N5, kp8, g_b5, szk5, V5⟩
theorem d24_0 : decode jdk_42_method_150_code 0 = .ok (.aload_n 0, 1) := by decide +kernel
theorem d24_1 : decode jdk_42_method_150_code 1 = .ok (.invokespecial 1, 3) := by decide +kernel
theorem d24_4 : decode jdk_42_method_150_code 4 = .ok (.aload_n 1, 1) := by decide +kernel
theorem d24_5 : decode jdk_42_method_150_code 5 = .ok (.invokevirtual 552, 3) := by decide +kernel
theorem pd_19 : parseMethodDescriptor "()[B" = some ⟨[], some (.array .byte)⟩ := by decide +kernel
theorem d24_8 : decode jdk_42_method_150_code 8 = .ok (.astore_n 3, 1) := by decide +kernel
theorem d24_9 : decode jdk_42_method_150_code 9 = .ok (.aload_n 1, 1) := by decide +kernel
theorem d24_10 : decode jdk_42_method_150_code 10 = .ok (.invokevirtual 549, 3) := by decide +kernel
theorem d24_13 : decode jdk_42_method_150_code 13 = .ok (.istore 4, 2) := by decide +kernel
theorem d24_15 : decode jdk_42_method_150_code 15 = .ok (.aload_n 1, 1) := by decide +kernel
theorem d24_16 : decode jdk_42_method_150_code 16 = .ok (.invokevirtual 1047, 3) := by decide +kernel
theorem d24_19 : decode jdk_42_method_150_code 19 = .ok (.ifCond .eq 22, 3) := by decide +kernel
theorem d24_22 : decode jdk_42_method_150_code 22 = .ok (.aload_n 0, 1) := by decide +kernel
theorem d24_23 : decode jdk_42_method_150_code 23 = .ok (.iconst 0, 1) := by decide +kernel
theorem d24_24 : decode jdk_42_method_150_code 24 = .ok (.putfield 15, 3) := by decide +kernel
theorem d24_27 : decode jdk_42_method_150_code 27 = .ok (.aload_n 0, 1) := by decide +kernel
theorem d24_28 : decode jdk_42_method_150_code 28 = .ok (.aload_n 3, 1) := by decide +kernel
theorem d24_29 : decode jdk_42_method_150_code 29 = .ok (.iconst 0, 1) := by decide +kernel
theorem d24_30 : decode jdk_42_method_150_code 30 = .ok (.iload 4, 2) := by decide +kernel
theorem d24_32 : decode jdk_42_method_150_code 32 = .ok (.invokestatic 54, 3) := by decide +kernel
theorem d24_35 : decode jdk_42_method_150_code 35 = .ok (.putfield 9, 3) := by decide +kernel
theorem d24_38 : decode jdk_42_method_150_code 38 = .ok (.goto 59, 3) := by decide +kernel
theorem d24_97 : decode jdk_42_method_150_code 97 = .ok (.return_, 1) := by decide +kernel
def Q24 (Z : State) (r0 : Addr) (r1 : Addr) (tb : Addr) (kd : ClassId) (vd : List Value) (cn : Int32) (cst : Int32) (fv : Value) (h0 : Heap) (n0 : Nat) (v : Option Value) (h : Heap) (L : List Loc) : Prop := v = none ∧ Fr n0 L ∧ Keep h0 h [r0] ∧ Fld Z h r0 "java/lang/String" "coder" "B" (.int (0 : Int32)) ∧ ∃ (t : Addr) (k : ClassId), Fld Z h r0 "java/lang/String" "value" "[B" (.ref t) ∧ Arv Z h t k .byte (cn - (0 : Int32)) (own_rs vd cn) (.int (0 : Int32))
theorem ef_rm24 (m : MethodId) (x0 : Addr) (x1 : Addr) : entryFrame m #[(.ref x0), (.ref x1), .null] 5 = mkF m 0 #[.val (.ref x0), .val (.ref x1), .val .null, .unset, .unset] [] := by first | (simp [entryFrame, mkF, argsToLocals, Value.category]; done) | rfl
set_option maxRecDepth 65536 in
set_option maxHeartbeats 40000000 in
theorem rm24 (l : Launch) (Z : State) (a0 : Array Value) (hw : ∀ d ∈ tables_1, d.before a0 Z = true) (ws : List Jvm.Cond) (r0 : Addr) (r1 : Addr) (tb : Addr) (kd : ClassId) (vd : List Value) (cn : Int32) (cst : Int32) (fv : Value) (h0 : Heap) (n0 : Nat) (Z0 : n0 ≤ h0.size) (E0 : Exa Z h0 r0 "java/lang/String") (Fv : Fld Z h0 r0 "java/lang/String" "value" "[B" .null) (Fc : Fld Z h0 r0 "java/lang/String" "coder" "B" (.int (0 : Int32))) (Ey : Exa Z h0 r1 "java/lang/StringBuilder") (Fny : Fld Z h0 r1 "java/lang/AbstractStringBuilder" "count" "I" (.int cn)) (Fcy : Fld Z h0 r1 "java/lang/AbstractStringBuilder" "coder" "B" (.int (0 : Int32))) (Fvy : Fld Z h0 r1 "java/lang/AbstractStringBuilder" "value" "[B" (.ref tb)) (Vd : Arv Z h0 tb kd .byte (16 : Int32) vd (.int (0 : Int32))) (O0 : Old Z n0 h0) (g_r0 : n0 ≤ r0) (dq_01 : r0 ≠ r1) (dq_0b : r0 ≠ tb) (cr : own_cr cn) (SS : Sts Z cst fv) :
  MetFree l (⟨"java/lang/String", "<init>", "(Ljava/lang/AbstractStringBuilder;Ljava/lang/Void;)V"⟩ : MethodName) (head1 (Jvm.Cond.code (⟨"java/lang/String", "<init>", "(Ljava/lang/AbstractStringBuilder;Ljava/lang/Void;)V"⟩ : MethodName) jdk_42_method_150_code 5 none :: ws) ({ frames := 3, cells := 1, slots := 8, locals := 49 } : Room)) (fun a U => a = #[(.ref r0), (.ref r1), .null] ∧ Z.Warmed39 U.vm ∧ U.heap = h0) (fun _ _ _ _ _ => True) (fun _ U o U' => ∃ v L, o = .returned v ∧ Q24 Z r0 r1 tb kd vd cn cst fv h0 n0 v U'.heap L ∧ FrameEnd U o U' L ({ frames := 3, cells := 1, slots := 8, locals := 49 } : Room).cells ({ frames := 3, cells := 1, slots := 8, locals := 49 } : Room).slots) := by
 refine MetFree.of_bodySF (plainFor_of_name pnc_java_lang_String) hisR ?_
 intro p e s m args below meth c s₁ Bd hml0 hP hK
 obtain ⟨rfl, hZ, hh⟩ := hP
 have hx := Bd.exec
 have hby := Bd.bytes
 have hml : c.maxLocals = 5 := hml0
 have hown : s.vm.findClass "java/lang/String" = some m.cls := findClass_of_methodNamed Bd.named
 have hnm := (name_of_methodNamed Bd.named Bd.method).1
 have X0 : Stand p l e ({ frames := 3, cells := 1, slots := 8, locals := 49 } : Room) s m #[(.ref r0), (.ref r1), .null] below meth c s₁ [] 0 0 := Stand.of_body Bd
 have e0 : s₁.heap = h0 := by rw [← hh, Bd.state]; rfl
 have N0 := Fr.nil n0
 have kp0 : Keep h0 h0 [r0] := Keep.refl _ _
 have G0 : ∀ t, Steps p.tables e below (s₁.setTop (mkF m 0 #[rv r0, rv r1, .val .null, .unset, .unset] [])) t → Steps p.tables e below (s₁.setTop (entryFrame m #[(.ref r0), (.ref r1), .null] 5)) t := fun t k => castTop (ef_rm24 m r0 r1) k
 obtain ⟨T1, X1, e1, st1⟩ := initO X0 hx hZ hown (hq hw 11 rfl) (hq hw 12 rfl) (hq hw 13 rfl) e0 (g := (mkF m 1 #[rv r0, rv r1, .val .null, .unset, .unset] [(.ref r0)])) rfl (by rw [hml]; rfl) rfl (hb hby d24_1) (by decide) (W := 0) (by show 2 * 0 + _ ≤ _; exact Nat.le_of_eq rfl) (by decide)
 obtain ⟨cq2, kq2, q2a, q2b, q2c⟩ := isOf hZ e1 Ey
 obtain ⟨_, _, ⟨T2, L2, k2, n2⟩, -, X2, ⟨Lc2, hQ2, l2, y2, z2⟩, st2⟩ := X1.virtualBack hx (y := (⟨"java/lang/AbstractStringBuilder", "getValue", "()[B"⟩ : MethodName)) (z := (⟨"java/lang/AbstractStringBuilder", "getValue", "()[B"⟩ : MethodName)) hown (mvT hZ (hq hw 143 rfl)) (mvT hZ (hq hw 144 rfl)) (notFace_of_selects (args := #[]) (mvT hZ (hq hw 146 rfl))) (mvT hZ (hq hw 146 rfl)) (mvT hZ (hq hw 145 rfl)) (by decide) (backOf (W := 0) (rm25 l Z a0 hw [] r1 tb h0 n0 Z0 Fvy) hZ (hq hw 147 rfl) (hq hw 75 rfl) (by decide) (by decide)) q2a q2c (g := (mkF m 5 #[rv r0, rv r1, .val .null, .unset, .unset] [(.ref r1)])) rfl (by rw [hml]; rfl) (Steps.refl _) (argsL := []) (rest := []) (lenOf pd_19 rfl) rfl (by show 2 * 0 + _ ≤ _; exact Nat.le_of_eq rfl) (hb hby d24_5) (fun _ _ => ⟨rfl, e1, (by decide : 0 + 0 ≤ _), (by decide : 0 + 0 ≤ _)⟩)
 dsimp only [Pt.U, Pt.locs, Pt.cells, Pt.slots] at X2 l2 y2 z2 st2 hQ2
 subst l2 y2 z2
 obtain ⟨rfl, N2q, eh2⟩ := hQ2
 have N2 := Fr.app N0 N2q
 obtain ⟨cq3, kq3, q3a, q3b, q3c⟩ := isOf hZ eh2 Ey
 obtain ⟨_, _, ⟨T3, L3, k3, n3⟩, -, X3, ⟨Lc3, hQ3, l3, y3, z3⟩, st3⟩ := X2.virtualBack hx (y := (⟨"java/lang/AbstractStringBuilder", "length", "()I"⟩ : MethodName)) (z := (⟨"java/lang/StringBuilder", "length", "()I"⟩ : MethodName)) hown (mvT hZ (hq hw 148 rfl)) (mvT hZ (hq hw 149 rfl)) (own_nf (a0 := #[]) (mvT hZ (hq hw 159 rfl)) (mvT hZ (hq hw 158 rfl)) rfl) (mvT hZ (hq hw 151 rfl)) (mvT hZ (hq hw 152 rfl)) (by decide) (backOf (W := 0) (rm26 l Z a0 hw [] r1 cn h0 n0 Z0 Ey Fny) hZ (hq hw 153 rfl) (hq hw 67 rfl) (by decide) (by decide)) q3a q3c (g := (mkF m 10 #[rv r0, rv r1, .val .null, rv tb, .unset] [(.ref r1)])) rfl (by rw [hml]; rfl) (Steps.refl _) (argsL := []) (rest := []) (lenOf pd_14 rfl) rfl (by show 2 * 0 + _ ≤ _; exact Nat.le_of_eq rfl) (hb hby d24_10) (fun _ _ => ⟨rfl, eh2, (by decide : 0 + 0 ≤ _), (by decide : 0 + 0 ≤ _)⟩)
 dsimp only [Pt.U, Pt.locs, Pt.cells, Pt.slots] at X3 l3 y3 z3 st3 hQ3
 subst l3 y3 z3
 obtain ⟨rfl, N3q, eh3⟩ := hQ3
 have N3 := Fr.app N2 N3q
 obtain ⟨cq4, kq4, q4a, q4b, q4c⟩ := isOf hZ eh3 Ey
 obtain ⟨_, _, ⟨T4, L4, k4, n4⟩, -, X4, ⟨Lc4, hQ4, l4, y4, z4⟩, st4⟩ := X3.virtualBack hx (y := (⟨"java/lang/AbstractStringBuilder", "isLatin1", "()Z"⟩ : MethodName)) (z := (⟨"java/lang/AbstractStringBuilder", "isLatin1", "()Z"⟩ : MethodName)) hown (mvT hZ (hq hw 156 rfl)) (mvT hZ (hq hw 157 rfl)) (notFace_of_selects (args := #[]) (mvT hZ (hq hw 159 rfl))) (mvT hZ (hq hw 159 rfl)) (mvT hZ (hq hw 158 rfl)) (by decide) (backOf (W := 0) (rm28 l Z a0 hw [] r1  cst fv h0 n0 Z0 Fcy O0  SS) hZ (hq hw 160 rfl) (hq hw 75 rfl) (by decide) (by decide)) q4a q4c (g := (mkF m 16 #[rv r0, rv r1, .val .null, rv tb, iv cn] [(.ref r1)])) rfl (by rw [hml]; rfl) (Steps.refl _) (argsL := []) (rest := []) (lenOf pd_3 rfl) rfl (by show 2 * 0 + _ ≤ _; exact Nat.le_of_eq rfl) (hb hby d24_16) (fun _ _ => ⟨rfl, eh3, (by decide : 0 + 0 ≤ _), (by decide : 0 + 0 ≤ _)⟩)
 dsimp only [Pt.U, Pt.locs, Pt.cells, Pt.slots] at X4 l4 y4 z4 st4 hQ4
 subst l4 y4 z4
 obtain ⟨rfl, N4q, eh4⟩ := hQ4
 have N4 := Fr.app N3 N4q
 have G5 : ∀ t, Steps p.tables e below (T4.setTop (mkF m 19 #[rv r0, rv r1, .val .null, rv tb, iv cn] [(.int (1 : Int32))])) t → Steps p.tables e below (s₁.setTop (entryFrame m #[(.ref r0), (.ref r1), .null] 5)) t := by
  intro t kt
  refine G0 _ ?_
  refine XS.aloadN X0.here hx rfl (hb hby d24_0) rfl rfl ?_
  refine st1 _ ?_
  refine XS.aloadN X1.here hx rfl (hb hby d24_4) rfl rfl ?_
  refine st2.trans ?_
  refine XS.astoreN X2.here hx rfl (hb hby d24_8) rfl rfl (l' := #[rv r0, rv r1, .val .null, rv tb, .unset]) rfl ?_
  refine XS.aloadN X2.here hx rfl (hb hby d24_9) rfl rfl ?_
  refine st3.trans ?_
  refine XS.istore X3.here hx rfl (hb hby d24_13) rfl (l' := #[rv r0, rv r1, .val .null, rv tb, iv cn]) rfl ?_
  refine XS.aloadN X3.here hx rfl (hb hby d24_15) rfl rfl ?_
  refine st4.trans ?_
  exact kt
 obtain ⟨T6, h6, X6, e6, W6, st6⟩ := putFN X4 hx hZ hown (hq hw 26 rfl) Via.refl eh4 Fc E0 (Or.inr ⟨(hq hw 27 rfl), rfl, hnm⟩) (hq hw 2 rfl) (ty := .byte) (v' := (.int (0 : Int32))) (by decide) rfl (fits_nar_byte (0 : Int32)) (g := (mkF m 24 #[rv r0, rv r1, .val .null, rv tb, iv cn] [(.int (0 : Int32)), (.ref r0)])) rfl rfl (hb hby d24_24)
 have fa7 := E0.wr W6
 have fa8 := Fv.other W6 (Or.inr (slot_ne (Or.inr (hq hw 29 rfl)) (Or.inr (hq hw 27 rfl)) (by decide) (t := (.array .byte)) (t' := .byte) (by decide) (by decide)))
 have fa9 : Fld Z h6 r0 "java/lang/String" "coder" "B" (.int (0 : Int32)) := Fc.same W6
 have fa10 := Ey.wr W6
 have fa11 := Fny.other W6 (Or.inl (Ne.symm dq_01))
 have fa12 := Fcy.other W6 (Or.inl (Ne.symm dq_01))
 have fa13 := Fvy.other W6 (Or.inl (Ne.symm dq_01))
 have fa14 := Vd.other W6 (Ne.symm dq_0b)
 have fa15 := O0.wr W6 g_r0
 have z16 : n0 ≤ h6.size := Nat.le_trans Z0 (Nat.le_of_eq W6.size.symm)
 have kp17 : Keep h0 h6 [r0] := kp0.wr W6 (Or.inl (List.mem_of_getElem? (i := 0) rfl))
 have N6 := Fr.snoc X6 N4 g_r0
 obtain ⟨_, _, ⟨T18, L18, k18, n18⟩, -, X18, ⟨Lc18, hQ18, l18, y18, z18⟩, st18⟩ := Jvm.LawKit.callS X6 hx (y := (⟨"java/util/Arrays", "copyOfRange", "([BII)[B"⟩ : MethodName)) hown (mvT hZ (hq hw 161 rfl)) (mvT hZ (hq hw 162 rfl)) (mvT hZ (hq hw 163 rfl)) (mvT hZ (hq hw 164 rfl)) (by decide) (backOf (W := 1) (rm29 l Z a0 hw [] tb cn kd vd h6 n0 z16 fa14 cr) hZ (hq hw 164 rfl) (hq hw 163 rfl) (by decide) (by decide)) (g := (mkF m 32 #[rv r0, rv r1, .val .null, rv tb, iv cn] [(.int cn), (.int (0 : Int32)), (.ref tb), (.ref r0)])) rfl (by rw [hml]; rfl) (argsL := [(.ref tb), (.int (0 : Int32)), (.int cn)]) (rest := [(.ref r0)]) (lenOf pd_18 rfl) rfl (by show 2 * 0 + _ ≤ _; exact Nat.le_of_eq rfl) (hb hby d24_32) (fun _ _ => ⟨rfl, e6, (by decide : 0 + 1 ≤ _), (by decide : 0 + 8 ≤ _)⟩)
 dsimp only [Pt.U, Pt.locs, Pt.cells, Pt.slots] at X18 l18 y18 z18 st18 hQ18
 subst l18 y18 z18
 obtain ⟨b18, kb18, rfl, N18q, K18, g_b18, sz18, V18⟩ := hQ18
 have N18 := Fr.app N6 N18q
 have szk18 : h0.size ≤ b18 := Nat.le_trans kp17.1 sz18
 have ne_r0_b18 : r0 ≠ b18 := Nat.ne_of_lt (Nat.lt_of_lt_of_le fa7.lt sz18)
 have ne_r1_b18 : r1 ≠ b18 := Nat.ne_of_lt (Nat.lt_of_lt_of_le fa10.lt sz18)
 have ne_tb_b18 : tb ≠ b18 := Nat.ne_of_lt (Nat.lt_of_lt_of_le fa14.lt sz18)
 have fa19 := fa7.keep K18
 have fa20 := fa8.keep K18 nin0
 have fa21 := fa9.keep K18 nin0
 have fa22 := fa10.keep K18
 have fa23 := fa11.keep K18 nin0
 have fa24 := fa12.keep K18 nin0
 have fa25 := fa13.keep K18 nin0
 have fa26 := fa14.keep K18 nin0
 have fa27 := fa15.keep K18 all0
 have z28 : n0 ≤ T18.heap.size := Nat.le_trans z16 K18.1
 have kp29 : Keep h0 T18.heap [r0] := kp17.trans K18 all0
 obtain ⟨T30, h30, X30, e30, W30, st30⟩ := putF X18 hx hZ hown (host := "") (Or.inl (hq hw 28 rfl)) Via.refl rfl fa20 fa19 (Or.inr ⟨(hq hw 29 rfl), rfl, hnm⟩) (hq hw 2 rfl) (ty := (.array .byte)) (by decide) rfl rfl (g := (mkF m 35 #[rv r0, rv r1, .val .null, rv tb, iv cn] [(.ref b18), (.ref r0)])) rfl rfl (hb hby d24_35)
 have fa31 := fa19.wr W30
 have fa32 : Fld Z h30 r0 "java/lang/String" "value" "[B" (.ref b18) := fa20.same W30
 have fa33 := fa21.other W30 (Or.inr (slot_ne (Or.inr (hq hw 27 rfl)) (Or.inr (hq hw 29 rfl)) (by decide) (t := .byte) (t' := (.array .byte)) (by decide) (by decide)))
 have fa34 := fa22.wr W30
 have fa35 := fa23.other W30 (Or.inl (Ne.symm dq_01))
 have fa36 := fa24.other W30 (Or.inl (Ne.symm dq_01))
 have fa37 := fa25.other W30 (Or.inl (Ne.symm dq_01))
 have fa38 := fa26.other W30 (Ne.symm dq_0b)
 have fa39 := fa27.wr W30 g_r0
 have fa40 := V18.other W30 (Ne.symm ne_r0_b18)
 have z41 : n0 ≤ h30.size := Nat.le_trans z28 (Nat.le_of_eq W30.size.symm)
 have kp42 : Keep h0 h30 [r0] := kp29.wr W30 (Or.inl (List.mem_of_getElem? (i := 0) rfl))
 have N30 := Fr.snoc X30 N18 g_r0
 obtain ⟨fs, hr, hrun, hended, hW, hsame⟩ := X30.leave (v := none) (fun _ => rfl)
 refine ⟨_, _, G5 _ ?_, hrun, hended, _, _, rfl, ?_, ⟨_, rfl⟩, hW, hsame.mono (by decide) (by decide)⟩
 ·skip
  refine XS.ifNo X4.here hx rfl (hb hby d24_19) rfl ((if0 _ _).trans (feq (by decide)).1) ?_
  refine XS.aloadN X4.here hx rfl (hb hby d24_22) rfl rfl ?_
  refine XS.iconst X4.here hx rfl (hb hby d24_23) ?_
  refine st6 _ ?_
  refine XS.aloadN X6.here hx rfl (hb hby d24_27) rfl rfl ?_
  refine XS.aloadN X6.here hx rfl (hb hby d24_28) rfl rfl ?_
  refine XS.iconst X6.here hx rfl (hb hby d24_29) ?_
  refine XS.iload X6.here hx rfl (hb hby d24_30) rfl ?_
  refine st18 _ ?_
  refine st30 _ ?_
  show Steps p.tables e below (T30.setTop (mkF m 38 #[rv r0, rv r1, .val .null, rv tb, iv cn] [])) _
  refine XS.goto X30.here hx rfl (pc0 := 38) (pc' := 97) rfl (hb hby d24_38) (by decide) (by decide) ?_
  exact X30.returnOut hx Bd.returns (hb hby d24_97) hr
 ·show Q24 Z r0 r1 tb kd vd cn cst fv h0 n0 _ T30.heap _
  rw [e30]
  exact ⟨rfl, N30, kp42, fa33, b18, kb18, fa32, fa40⟩
theorem d23_0 : decode jdk_42_method_53_code 0 = .ok (.aload_n 0, 1) := by decide +kernel
theorem d23_1 : decode jdk_42_method_53_code 1 = .ok (.aload_n 1, 1) := by decide +kernel
theorem d23_2 : decode jdk_42_method_53_code 2 = .ok (.aconst_null, 1) := by decide +kernel
theorem d23_3 : decode jdk_42_method_53_code 3 = .ok (.invokespecial 489, 3) := by decide +kernel
theorem pd_20 : parseMethodDescriptor "(Ljava/lang/AbstractStringBuilder;Ljava/lang/Void;)V" = some ⟨[(.object "java/lang/AbstractStringBuilder"), (.object "java/lang/Void")], none⟩ := by decide +kernel
theorem d23_6 : decode jdk_42_method_53_code 6 = .ok (.return_, 1) := by decide +kernel
def Q23 (Z : State) (r0 : Addr) (r1 : Addr) (tb : Addr) (kd : ClassId) (vd : List Value) (cn : Int32) (cst : Int32) (fv : Value) (h0 : Heap) (n0 : Nat) (v : Option Value) (h : Heap) (L : List Loc) : Prop := v = none ∧ Fr n0 L ∧ Keep h0 h [r0] ∧ Fld Z h r0 "java/lang/String" "coder" "B" (.int (0 : Int32)) ∧ ∃ (t : Addr) (k : ClassId), Fld Z h r0 "java/lang/String" "value" "[B" (.ref t) ∧ Arv Z h t k .byte (cn - (0 : Int32)) (own_rs vd cn) (.int (0 : Int32))
theorem ef_rm23 (m : MethodId) (x0 : Addr) (x1 : Addr) : entryFrame m #[(.ref x0), (.ref x1)] 2 = mkF m 0 #[.val (.ref x0), .val (.ref x1)] [] := by first | (simp [entryFrame, mkF, argsToLocals, Value.category]; done) | rfl
set_option maxRecDepth 65536 in
set_option maxHeartbeats 40000000 in
theorem rm23 (l : Launch) (Z : State) (a0 : Array Value) (hw : ∀ d ∈ tables_1, d.before a0 Z = true) (ws : List Jvm.Cond) (r0 : Addr) (r1 : Addr) (tb : Addr) (kd : ClassId) (vd : List Value) (cn : Int32) (cst : Int32) (fv : Value) (h0 : Heap) (n0 : Nat) (Z0 : n0 ≤ h0.size) (E0 : Exa Z h0 r0 "java/lang/String") (Fv : Fld Z h0 r0 "java/lang/String" "value" "[B" .null) (Fc : Fld Z h0 r0 "java/lang/String" "coder" "B" (.int (0 : Int32))) (Ey : Exa Z h0 r1 "java/lang/StringBuilder") (Fny : Fld Z h0 r1 "java/lang/AbstractStringBuilder" "count" "I" (.int cn)) (Fcy : Fld Z h0 r1 "java/lang/AbstractStringBuilder" "coder" "B" (.int (0 : Int32))) (Fvy : Fld Z h0 r1 "java/lang/AbstractStringBuilder" "value" "[B" (.ref tb)) (Vd : Arv Z h0 tb kd .byte (16 : Int32) vd (.int (0 : Int32))) (O0 : Old Z n0 h0) (g_r0 : n0 ≤ r0) (dq_01 : r0 ≠ r1) (dq_0b : r0 ≠ tb) (cr : own_cr cn) (SS : Sts Z cst fv) :
  MetFree l (⟨"java/lang/String", "<init>", "(Ljava/lang/StringBuilder;)V"⟩ : MethodName) (head1 (Jvm.Cond.code (⟨"java/lang/String", "<init>", "(Ljava/lang/StringBuilder;)V"⟩ : MethodName) jdk_42_method_53_code 2 none :: ws) ({ frames := 4, cells := 1, slots := 8, locals := 65 } : Room)) (fun a U => a = #[(.ref r0), (.ref r1)] ∧ Z.Warmed39 U.vm ∧ U.heap = h0) (fun _ _ _ _ _ => True) (fun _ U o U' => ∃ v L, o = .returned v ∧ Q23 Z r0 r1 tb kd vd cn cst fv h0 n0 v U'.heap L ∧ FrameEnd U o U' L ({ frames := 4, cells := 1, slots := 8, locals := 65 } : Room).cells ({ frames := 4, cells := 1, slots := 8, locals := 65 } : Room).slots) := by
 refine MetFree.of_bodySF (plainFor_of_name pnc_java_lang_String) hisR ?_
 intro p e s m args below meth c s₁ Bd hml0 hP hK
 obtain ⟨rfl, hZ, hh⟩ := hP
 have hx := Bd.exec
 have hby := Bd.bytes
 have hml : c.maxLocals = 2 := hml0
 have hown : s.vm.findClass "java/lang/String" = some m.cls := findClass_of_methodNamed Bd.named
 have hnm := (name_of_methodNamed Bd.named Bd.method).1
 have X0 : Stand p l e ({ frames := 4, cells := 1, slots := 8, locals := 65 } : Room) s m #[(.ref r0), (.ref r1)] below meth c s₁ [] 0 0 := Stand.of_body Bd
 have e0 : s₁.heap = h0 := by rw [← hh, Bd.state]; rfl
 have N0 := Fr.nil n0
 have kp0 : Keep h0 h0 [r0] := Keep.refl _ _
 have G0 : ∀ t, Steps p.tables e below (s₁.setTop (mkF m 0 #[rv r0, rv r1] [])) t → Steps p.tables e below (s₁.setTop (entryFrame m #[(.ref r0), (.ref r1)] 2)) t := fun t k => castTop (ef_rm23 m r0 r1) k
 obtain ⟨_, _, ⟨T1, L1, k1, n1⟩, -, X1, ⟨Lc1, hQ1, l1, y1, z1⟩, st1⟩ := X0.specialBack hx (y := (⟨"java/lang/String", "<init>", "(Ljava/lang/AbstractStringBuilder;Ljava/lang/Void;)V"⟩ : MethodName)) rfl hown (mvT hZ (hq hw 140 rfl)) (mvT hZ (hq hw 141 rfl)) (mvT hZ (hq hw 142 rfl)) (by decide) (backOf (W := 0) (rm24 l Z a0 hw [] r0 r1 tb kd vd cn cst fv h0 n0 Z0 E0 Fv Fc Ey Fny Fcy Fvy Vd O0 g_r0 dq_01 dq_0b cr SS) hZ (hq hw 142 rfl) (hq hw 3 rfl) (by decide) (by decide)) (g := (mkF m 3 #[rv r0, rv r1] [.null, (.ref r1), (.ref r0)])) rfl (by rw [hml]; rfl) (Steps.refl _) (a := r0) (argsL := [(.ref r1), .null]) (rest := []) (lenOf pd_20 rfl) rfl (by show 2 * 0 + _ ≤ _; exact Nat.le_of_eq rfl) (hb hby d23_3) (fun _ _ => ⟨rfl, e0, (by decide : 0 + 1 ≤ _), (by decide : 0 + 8 ≤ _)⟩)
 dsimp only [Pt.U, Pt.locs, Pt.cells, Pt.slots] at X1 l1 y1 z1 st1 hQ1
 subst l1 y1 z1
 obtain ⟨rfl, N1q, K1, Fc1, t1, kb1, Fv1, V1⟩ := hQ1
 have N1 := Fr.app N0 N1q
 have fa2 := E0.keep K1
 have fa3 := Ey.keep K1
 have fa4 := Fny.keep K1 (ninS (Ne.symm dq_01) nin0)
 have fa5 := Fcy.keep K1 (ninS (Ne.symm dq_01) nin0)
 have fa6 := Fvy.keep K1 (ninS (Ne.symm dq_01) nin0)
 have fa7 := Vd.keep K1 (ninS (Ne.symm dq_0b) nin0)
 have fa8 := O0.keep K1 (allS g_r0 all0)
 have z9 : n0 ≤ T1.heap.size := Nat.le_trans Z0 K1.1
 have kp10 : Keep h0 T1.heap [r0] := kp0.trans K1 (allS (Or.inl (List.mem_of_getElem? (i := 0) rfl)) all0)
 obtain ⟨fs, hr, hrun, hended, hW, hsame⟩ := X1.leave (v := none) (fun _ => rfl)
 refine ⟨_, _, G0 _ ?_, hrun, hended, _, _, rfl, ?_, ⟨_, rfl⟩, hW, hsame.mono (by decide) (by decide)⟩
 ·skip
  refine XS.aloadN X0.here hx rfl (hb hby d23_0) rfl rfl ?_
  refine XS.aloadN X0.here hx rfl (hb hby d23_1) rfl rfl ?_
  refine XS.aconstNull X0.here hx rfl (hb hby d23_2) ?_
  refine st1.trans ?_
  exact X1.returnOut hx Bd.returns (hb hby d23_6) hr
 ·show Q23 Z r0 r1 tb kd vd cn cst fv h0 n0 _ T1.heap _
  exact ⟨rfl, N1, kp10, Fc1, t1, kb1, Fv1, V1⟩
theorem d22_0 : decode jdk_67_method_42_code 0 = .ok (.new 18, 3) := by decide +kernel
theorem d22_3 : decode jdk_67_method_42_code 3 = .ok (.dup, 1) := by decide +kernel
theorem d22_4 : decode jdk_67_method_42_code 4 = .ok (.aload_n 0, 1) := by decide +kernel
theorem d22_5 : decode jdk_67_method_42_code 5 = .ok (.invokespecial 137, 3) := by decide +kernel
theorem pd_21 : parseMethodDescriptor "(Ljava/lang/StringBuilder;)V" = some ⟨[(.object "java/lang/StringBuilder")], none⟩ := by decide +kernel
theorem d22_8 : decode jdk_67_method_42_code 8 = .ok (.areturn, 1) := by decide +kernel
def Q22 (Z : State) (r0 : Addr) (tb : Addr) (kd : ClassId) (vd : List Value) (cn : Int32) (cst : Int32) (fv : Value) (h0 : Heap) (n0 : Nat) (v : Option Value) (h : Heap) (L : List Loc) : Prop := ∃ (s : Addr) (t : Addr) (k : ClassId), v = some (.ref s) ∧ Fr n0 L ∧ Keep h0 h [] ∧ Exa Z h s "java/lang/String" ∧ Fld Z h s "java/lang/String" "coder" "B" (.int (0 : Int32)) ∧ Fld Z h s "java/lang/String" "value" "[B" (.ref t) ∧ Arv Z h t k .byte (cn - (0 : Int32)) (own_rs vd cn) (.int (0 : Int32))
theorem ef_rm22 (m : MethodId) (x0 : Addr) : entryFrame m #[(.ref x0)] 1 = mkF m 0 #[.val (.ref x0)] [] := by first | (simp [entryFrame, mkF, argsToLocals, Value.category]; done) | rfl
set_option maxRecDepth 65536 in
set_option maxHeartbeats 40000000 in
theorem rm22 (l : Launch) (Z : State) (a0 : Array Value) (hw : ∀ d ∈ tables_1, d.before a0 Z = true) (ws : List Jvm.Cond) (r0 : Addr) (tb : Addr) (kd : ClassId) (vd : List Value) (cn : Int32) (cst : Int32) (fv : Value) (h0 : Heap) (n0 : Nat) (Z0 : n0 ≤ h0.size) (Ey : Exa Z h0 r0 "java/lang/StringBuilder") (Fny : Fld Z h0 r0 "java/lang/AbstractStringBuilder" "count" "I" (.int cn)) (Fcy : Fld Z h0 r0 "java/lang/AbstractStringBuilder" "coder" "B" (.int (0 : Int32))) (Fvy : Fld Z h0 r0 "java/lang/AbstractStringBuilder" "value" "[B" (.ref tb)) (Vd : Arv Z h0 tb kd .byte (16 : Int32) vd (.int (0 : Int32))) (O0 : Old Z n0 h0) (cr : own_cr cn) (SS : Sts Z cst fv) :
  MetFree l (⟨"java/lang/StringBuilder", "toString", "()Ljava/lang/String;"⟩ : MethodName) (head1 (Jvm.Cond.code (⟨"java/lang/StringBuilder", "toString", "()Ljava/lang/String;"⟩ : MethodName) jdk_67_method_42_code 1 (some (.object "java/lang/String")) :: ws) ({ frames := 5, cells := 2, slots := 12, locals := 79 } : Room)) (fun a U => a = #[(.ref r0)] ∧ Z.Warmed39 U.vm ∧ U.heap = h0) (fun _ _ _ _ _ => True) (fun _ U o U' => ∃ v L, o = .returned v ∧ Q22 Z r0 tb kd vd cn cst fv h0 n0 v U'.heap L ∧ FrameEnd U o U' L ({ frames := 5, cells := 2, slots := 12, locals := 79 } : Room).cells ({ frames := 5, cells := 2, slots := 12, locals := 79 } : Room).slots) := by
 refine MetFree.of_bodySF (plainFor_of_name pnc_java_lang_StringBuilder) hisR ?_
 intro p e s m args below meth c s₁ Bd hml0 hP hK
 obtain ⟨rfl, hZ, hh⟩ := hP
 have hx := Bd.exec
 have hby := Bd.bytes
 have hml : c.maxLocals = 1 := hml0
 have hown : s.vm.findClass "java/lang/StringBuilder" = some m.cls := findClass_of_methodNamed Bd.named
 have hnm := (name_of_methodNamed Bd.named Bd.method).1
 have X0 : Stand p l e ({ frames := 5, cells := 2, slots := 12, locals := 79 } : Room) s m #[(.ref r0)] below meth c s₁ [] 0 0 := Stand.of_body Bd
 have e0 : s₁.heap = h0 := by rw [← hh, Bd.state]; rfl
 have N0 := Fr.nil n0
 have kp0 : Keep h0 h0 [] := Keep.refl _ _
 have G0 : ∀ t, Steps p.tables e below (s₁.setTop (mkF m 0 #[rv r0] [])) t → Steps p.tables e below (s₁.setTop (entryFrame m #[(.ref r0)] 1)) t := fun t k => castTop (ef_rm22 m r0) k
 obtain ⟨T1, h1, X1, e1, E1, A1, D1, -, st1⟩ := newO X0 hx hZ hown (hq hw 136 rfl) (hq hw 2 rfl) (hq hw 3 rfl) e0 (g := (mkF m 0 #[rv r0] [])) rfl (hb hby d22_0) (by decide) (by decide)
 obtain ⟨b1, g1⟩ : ∃ z, z = h0.size := ⟨_, rfl⟩
 rw [← g1] at A1 D1 st1
 have g_b1 : n0 ≤ b1 := Nat.le_trans Z0 (Nat.le_of_eq g1.symm)
 have sz_b1 : h0.size ≤ b1 := Nat.le_trans kp0.1 (Nat.le_of_eq g1.symm)
 have ne_r0_b1 : r0 ≠ b1 := Nat.ne_of_lt (Nat.lt_of_lt_of_le Ey.lt (Nat.le_of_eq g1.symm))
 have ne_tb_b1 : tb ≠ b1 := Nat.ne_of_lt (Nat.lt_of_lt_of_le Vd.lt (Nat.le_of_eq g1.symm))
 have fa2 := Ey.ext E1
 have fa3 := Fny.ext E1
 have fa4 := Fcy.ext E1
 have fa5 := Fvy.ext E1
 have fa6 := Vd.ext E1
 have fa7 := O0.ext E1
 have z8 : n0 ≤ h1.size := Nat.le_trans Z0 E1.1
 have kp9 : Keep h0 h1 [] := kp0.ext E1
 have fa10 : Fld Z h1 b1 "java/lang/String" "coder" "B" (.int (0 : Int32)) := D1 (Or.inr (hq hw 27 rfl)) (ty := .byte) (by decide)
 have fa11 : Fld Z h1 b1 "java/lang/String" "value" "[B" .null := D1 (Or.inr (hq hw 29 rfl)) (ty := (.array .byte)) (by decide)
 obtain ⟨_, _, ⟨T12, L12, k12, n12⟩, -, X12, ⟨Lc12, hQ12, l12, y12, z12⟩, st12⟩ := X1.specialBack hx (y := (⟨"java/lang/String", "<init>", "(Ljava/lang/StringBuilder;)V"⟩ : MethodName)) rfl hown (mvT hZ (hq hw 137 rfl)) (mvT hZ (hq hw 138 rfl)) (mvT hZ (hq hw 139 rfl)) (by decide) (backOf (W := 1) (rm23 l Z a0 hw [] b1 r0 tb kd vd cn cst fv h1 n0 z8 A1 fa11 fa10 fa2 fa3 fa4 fa5 fa6 fa7 g_b1 (Ne.symm ne_r0_b1) (Ne.symm ne_tb_b1) cr SS) hZ (hq hw 139 rfl) (hq hw 3 rfl) (by decide) (by decide)) (g := (mkF m 5 #[rv r0] [(.ref r0), (.ref b1), (.ref b1)])) rfl (by rw [hml]; rfl) (Steps.refl _) (a := b1) (argsL := [(.ref r0)]) (rest := [(.ref b1)]) (lenOf pd_21 rfl) rfl (by show 2 * 0 + _ ≤ _; exact Nat.le_of_eq rfl) (hb hby d22_5) (fun _ _ => ⟨rfl, e1, (by decide : 1 + 1 ≤ _), (by decide : 4 + 8 ≤ _)⟩)
 dsimp only [Pt.U, Pt.locs, Pt.cells, Pt.slots] at X12 l12 y12 z12 st12 hQ12
 subst l12 y12 z12
 obtain ⟨rfl, N12q, K12, Fc12, t12, kb12, Fv12, V12⟩ := hQ12
 have N12 := Fr.app N0 N12q
 have fa13 := fa2.keep K12
 have fa14 := fa3.keep K12 (ninS ne_r0_b1 nin0)
 have fa15 := fa4.keep K12 (ninS ne_r0_b1 nin0)
 have fa16 := fa5.keep K12 (ninS ne_r0_b1 nin0)
 have fa17 := fa6.keep K12 (ninS ne_tb_b1 nin0)
 have fa18 := fa7.keep K12 (allS g_b1 all0)
 have fa19 := A1.keep K12
 have z20 : n0 ≤ T12.heap.size := Nat.le_trans z8 K12.1
 have kp21 : Keep h0 T12.heap [] := kp9.trans K12 (allS (Or.inr sz_b1) all0)
 obtain ⟨fs, hr, hrun, hended, hW, hsame⟩ := X12.leave (v := some (.ref b1)) (fun h => by rw [Bd.returns] at h; cases h)
 refine ⟨_, _, G0 _ ?_, hrun, hended, _, _, rfl, ?_, ⟨_, rfl⟩, hW, hsame.mono (by decide) (by decide)⟩
 ·skip
  refine st1 _ ?_
  refine XS.dup X1.here hx rfl (hb hby d22_3) rfl rfl ?_
  refine XS.aloadN X1.here hx rfl (hb hby d22_4) rfl rfl ?_
  refine st12.trans ?_
  exact retOut X12 hx Bd.returns rfl (Or.inr (Or.inr (Or.inr (Or.inr ⟨rfl, rfl, rfl⟩)))) (hb hby d22_8) hr
 ·show Q22 Z r0 tb kd vd cn cst fv h0 n0 _ T12.heap _
  exact ⟨b1, t12, kb12, rfl, N12, kp21, fa19, Fc12, Fv12, V12⟩
theorem d11_0 : decode prog_13_method_2_code 0 = .ok (.new 37, 3) := by decide +kernel
theorem d11_3 : decode prog_13_method_2_code 3 = .ok (.dup, 1) := by decide +kernel
theorem d11_4 : decode prog_13_method_2_code 4 = .ok (.invokespecial 39, 3) := by decide +kernel
theorem d11_7 : decode prog_13_method_2_code 7 = .ok (.aload_n 0, 1) := by decide +kernel
theorem d11_8 : decode prog_13_method_2_code 8 = .ok (.getfield 30, 3) := by decide +kernel
theorem d11_11 : decode prog_13_method_2_code 11 = .ok (.invokevirtual 40, 3) := by decide +kernel
theorem pd_22 : parseMethodDescriptor "(Ljava/lang/String;)Ljava/lang/StringBuilder;" = some ⟨[(.object "java/lang/String")], some (.object "java/lang/StringBuilder")⟩ := by decide +kernel
theorem d11_14 : decode prog_13_method_2_code 14 = .ok (.ldc 44, 2) := by decide +kernel
theorem d11_16 : decode prog_13_method_2_code 16 = .ok (.invokevirtual 40, 3) := by decide +kernel
theorem d11_19 : decode prog_13_method_2_code 19 = .ok (.aload_n 0, 1) := by decide +kernel
theorem d11_20 : decode prog_13_method_2_code 20 = .ok (.getfield 35, 3) := by decide +kernel
theorem d11_23 : decode prog_13_method_2_code 23 = .ok (.invokevirtual 40, 3) := by decide +kernel
theorem d11_26 : decode prog_13_method_2_code 26 = .ok (.invokevirtual 46, 3) := by decide +kernel
theorem pd_23 : parseMethodDescriptor "()Ljava/lang/String;" = some ⟨[], some (.object "java/lang/String")⟩ := by decide +kernel
theorem d11_29 : decode prog_13_method_2_code 29 = .ok (.areturn, 1) := by decide +kernel
def Q11 (Z : State) (r0 : Addr) (ox : Addr) (wx : Addr) (kyx : ClassId) (nx : Int32) (vx : List Value) (oz : Addr) (wz : Addr) (kyz : ClassId) (nz : Int32) (vz : List Value) (zz : Int32) (rs : List Value) (cst : Int32) (fv : Value) (h0 : Heap) (n0 : Nat) (v : Option Value) (h : Heap) (L : List Loc) : Prop := ∃ (s : Addr) (t : Addr) (k : ClassId), v = some (.ref s) ∧ Fr n0 L ∧ Keep h0 h [] ∧ Exa Z h s "java/lang/String" ∧ Fld Z h s "java/lang/String" "coder" "B" (.int (0 : Int32)) ∧ Fld Z h s "java/lang/String" "value" "[B" (.ref t) ∧ Arv Z h t k .byte zz rs (.int (0 : Int32))
theorem ef_rm11 (m : MethodId) (x0 : Addr) : entryFrame m #[(.ref x0)] 1 = mkF m 0 #[.val (.ref x0)] [] := by first | (simp [entryFrame, mkF, argsToLocals, Value.category]; done) | rfl
set_option maxRecDepth 65536 in
set_option maxHeartbeats 40000000 in
theorem rm11 (l : Launch) (Z : State) (a0 : Array Value) (hw : ∀ d ∈ tables_1, d.before a0 Z = true) (ws : List Jvm.Cond) (r0 : Addr) (ox : Addr) (wx : Addr) (kyx : ClassId) (nx : Int32) (vx : List Value) (oz : Addr) (wz : Addr) (kyz : ClassId) (nz : Int32) (vz : List Value) (zz : Int32) (rs : List Value) (cst : Int32) (fv : Value) (h0 : Heap) (n0 : Nat) (Z0 : n0 ≤ h0.size) (Ft : Fld Z h0 r0 "com/example/fides/fides/RecordId" "table" "Ljava/lang/String;" (.ref ox)) (Fk : Fld Z h0 r0 "com/example/fides/fides/RecordId" "key" "Ljava/lang/String;" (.ref oz)) (Eyx : Exa Z h0 ox "java/lang/String") (Fcyx : Fld Z h0 ox "java/lang/String" "coder" "B" (.int (0 : Int32))) (Fvyx : Fld Z h0 ox "java/lang/String" "value" "[B" (.ref wx)) (Vyx : Arv Z h0 wx kyx .byte nx vx (.int (0 : Int32))) (Eyz : Exa Z h0 oz "java/lang/String") (Fcyz : Fld Z h0 oz "java/lang/String" "coder" "B" (.int (0 : Int32))) (Fvyz : Fld Z h0 oz "java/lang/String" "value" "[B" (.ref wz)) (Vyz : Arv Z h0 wz kyz .byte nz vz (.int (0 : Int32))) (O0 : Old Z n0 h0) (ap1 : ¬ ((0 : Int32) < (((0 : Int32) + nx) - (16 : Int32)))) (ok1 : own_ok ((0 : Int32) <<< ((0 : Int32) &&& 31)) nx nx (16 : Int32) own_z16.length) (ap2 : ¬ ((0 : Int32) < ((((0 : Int32) + nx) + (1 : Int32)) - (16 : Int32)))) (ok2 : own_ok (((0 : Int32) + nx) <<< ((0 : Int32) &&& 31)) (1 : Int32) (1 : Int32) (16 : Int32) ((own_cp own_z16 vx ((0 : Int32) <<< ((0 : Int32) &&& 31)) nx)).length) (ap3 : ¬ ((0 : Int32) < (((((0 : Int32) + nx) + (1 : Int32)) + nz) - (16 : Int32)))) (ok3 : own_ok ((((0 : Int32) + nx) + (1 : Int32)) <<< ((0 : Int32) &&& 31)) nz nz (16 : Int32) ((own_cp (own_cp own_z16 vx ((0 : Int32) <<< ((0 : Int32) &&& 31)) nx) [(.int (47 : Int32))] (((0 : Int32) + nx) <<< ((0 : Int32) &&& 31)) (1 : Int32))).length) (cr : own_cr ((((0 : Int32) + nx) + (1 : Int32)) + nz)) (hz : (((((0 : Int32) + nx) + (1 : Int32)) + nz) - (0 : Int32)) = zz) (hrs : own_rs (own_cp (own_cp (own_cp own_z16 vx ((0 : Int32) <<< ((0 : Int32) &&& 31)) nx) [(.int (47 : Int32))] (((0 : Int32) + nx) <<< ((0 : Int32) &&& 31)) (1 : Int32)) vz ((((0 : Int32) + nx) + (1 : Int32)) <<< ((0 : Int32) &&& 31)) nz) ((((0 : Int32) + nx) + (1 : Int32)) + nz) = rs) (SS : Sts Z cst fv) :
  MetFree l (⟨"com/example/fides/fides/RecordId", "toString", "()Ljava/lang/String;"⟩ : MethodName) (head1 (Jvm.Cond.code (⟨"com/example/fides/fides/RecordId", "toString", "()Ljava/lang/String;"⟩ : MethodName) prog_13_method_2_code 1 (some (.object "java/lang/String")) :: ws) ({ frames := 6, cells := 6, slots := 40, locals := 91 } : Room)) (fun a U => a = #[(.ref r0)] ∧ Z.Warmed39 U.vm ∧ U.heap = h0 ∧ CHv Z own_EL U.vm h0) (fun _ _ _ _ _ => True) (fun _ U o U' => ∃ v L, o = .returned v ∧ Q11 Z r0 ox wx kyx nx vx oz wz kyz nz vz zz rs cst fv h0 n0 v U'.heap L ∧ CHr Z own_EL U.vm U.heap U'.vm U'.heap ∧ ReturnedEndW U o U' L ({ frames := 6, cells := 6, slots := 40, locals := 91 } : Room).cells ({ frames := 6, cells := 6, slots := 40, locals := 91 } : Room).slots) := by
 refine MetFree.of_bodySF (plainFor_of_name pnc_com_example_fides_fides_RecordId) hisR ?_
 intro p e s m args below meth c s₁ Bd hml0 hP hK
 obtain ⟨rfl, hZ, hh, CH0⟩ := hP
 have hx := Bd.exec
 have hby := Bd.bytes
 have hml : c.maxLocals = 1 := hml0
 have hown : s.vm.findClass "com/example/fides/fides/RecordId" = some m.cls := findClass_of_methodNamed Bd.named
 have hnm := (name_of_methodNamed Bd.named Bd.method).1
 have X0 : Stand p l e ({ frames := 6, cells := 6, slots := 40, locals := 91 } : Room) s m #[(.ref r0)] below meth c s₁ [] 0 0 := Stand.of_body Bd
 have e0 : s₁.heap = h0 := by rw [← hh, Bd.state]; rfl
 have N0 := Fr.nil n0
 have kp0 : Keep h0 h0 [] := Keep.refl _ _
 have G0 : ∀ t, Steps p.tables e below (s₁.setTop (mkF m 0 #[rv r0] [])) t → Steps p.tables e below (s₁.setTop (entryFrame m #[(.ref r0)] 1)) t := fun t k => castTop (ef_rm11 m r0) k
 have X0 : Stand p l e ({ frames := 6, cells := 6, slots := 40, locals := 91 } : Room) (s.setVm s.vm) m #[(.ref r0)] below meth c s₁ [] 0 0 := X0
 have hZ : Z.Warmed39 (s.setVm s.vm).vm := hZ
 have hown : (s.setVm s.vm).vm.findClass "com/example/fides/fides/RecordId" = some m.cls := hown
 have hEL : EW Z a0 own_EL := own_ew hw
 have CR0 : CHr Z own_EL s.vm h0 s.vm h0 := CHr.refl CH0
 have hS : s.Since s.vm 0 := (State.WarmedH.refl s).since 0
 have hk : 0 ≤ h0.size := Nat.zero_le _
 obtain ⟨T1, h1, X1, e1, E1, A1, D1, -, st1⟩ := newO X0 hx hZ hown (hq hw 65 rfl) (hq hw 66 rfl) (hq hw 67 rfl) e0 (g := (mkF m 0 #[rv r0] [])) rfl (hb hby d11_0) (by decide) (by decide)
 obtain ⟨b1, g1⟩ : ∃ z, z = h0.size := ⟨_, rfl⟩
 rw [← g1] at A1 D1 st1
 have g_b1 : n0 ≤ b1 := Nat.le_trans Z0 (Nat.le_of_eq g1.symm)
 have sz_b1 : h0.size ≤ b1 := Nat.le_trans kp0.1 (Nat.le_of_eq g1.symm)
 have ne_r0_b1 : r0 ≠ b1 := Nat.ne_of_lt (Nat.lt_of_lt_of_le Ft.lt (Nat.le_of_eq g1.symm))
 have ne_ox_b1 : ox ≠ b1 := Nat.ne_of_lt (Nat.lt_of_lt_of_le Eyx.lt (Nat.le_of_eq g1.symm))
 have ne_wx_b1 : wx ≠ b1 := Nat.ne_of_lt (Nat.lt_of_lt_of_le Vyx.lt (Nat.le_of_eq g1.symm))
 have ne_oz_b1 : oz ≠ b1 := Nat.ne_of_lt (Nat.lt_of_lt_of_le Eyz.lt (Nat.le_of_eq g1.symm))
 have ne_wz_b1 : wz ≠ b1 := Nat.ne_of_lt (Nat.lt_of_lt_of_le Vyz.lt (Nat.le_of_eq g1.symm))
 have ch2 : CHv Z own_EL s.vm h1 := CH0.ext E1
 have cr2 : CHr Z own_EL s.vm h0 s.vm h1 := CR0.trans (CHr.ext E1 CH0)
 have sf2_b1 : Safe Z own_EL s.vm h1 b1 := Safe.ext E1 CH0 (Safe.new (Nat.le_of_eq g1.symm))
 have fa3 := Ft.ext E1
 have fa4 := Fk.ext E1
 have fa5 := Eyx.ext E1
 have fa6 := Fcyx.ext E1
 have fa7 := Fvyx.ext E1
 have fa8 := Vyx.ext E1
 have fa9 := Eyz.ext E1
 have fa10 := Fcyz.ext E1
 have fa11 := Fvyz.ext E1
 have fa12 := Vyz.ext E1
 have fa13 := O0.ext E1
 have z14 : n0 ≤ h1.size := Nat.le_trans Z0 E1.1
 have hk := Nat.le_trans hk E1.1
 have kp15 : Keep h0 h1 [] := kp0.ext E1
 have fa16 : Fld Z h1 b1 "java/lang/AbstractStringBuilder" "value" "[B" .null := D1 (Or.inl (hq hw 80 rfl)) (ty := (.array .byte)) (by decide)
 have fa17 : Fld Z h1 b1 "java/lang/AbstractStringBuilder" "coder" "B" (.int (0 : Int32)) := D1 (Or.inl (hq hw 82 rfl)) (ty := .byte) (by decide)
 have fa18 : Fld Z h1 b1 "java/lang/AbstractStringBuilder" "count" "I" (.int (0 : Int32)) := D1 (Or.inl (hq hw 104 rfl)) (ty := .int) (by decide)
 have G19 : ∀ t, Steps p.tables e below (T1.setTop (mkF m 4 #[rv r0] [(.ref b1), (.ref b1)])) t → Steps p.tables e below (s₁.setTop (entryFrame m #[(.ref r0)] 1)) t := by
  intro t kt
  refine G0 _ ?_
  refine st1 _ ?_
  refine XS.dup X1.here hx rfl (hb hby d11_3) rfl rfl ?_
  exact kt
 obtain ⟨_, _, ⟨T20, L20, k20, n20⟩, -, X20, ⟨Lc20, hQ20, l20, y20, z20⟩, st20⟩ := X1.specialBack hx (y := (⟨"java/lang/StringBuilder", "<init>", "()V"⟩ : MethodName)) rfl hown (mvT hZ (hq hw 68 rfl)) (mvT hZ (hq hw 69 rfl)) (mvT hZ (hq hw 70 rfl)) (by decide) (backOf (W := 1) (rm12 l Z a0 hw [] b1  cst fv h1 n0 z14 A1 fa18 fa17 fa16 fa13 g_b1 SS) hZ (hq hw 70 rfl) (hq hw 67 rfl) (by decide) (by decide)) (g := (mkF m 4 #[rv r0] [(.ref b1), (.ref b1)])) rfl (by rw [hml]; rfl) (Steps.refl _) (a := b1) (argsL := []) (rest := [(.ref b1)]) (lenOf pd_9 rfl) rfl (by show 2 * 0 + _ ≤ _; exact Nat.le_of_eq rfl) (hb hby d11_4) (fun _ _ => ⟨rfl, e1, (by decide : 1 + 1 ≤ _), (by decide : 4 + 16 ≤ _)⟩)
 dsimp only [Pt.U, Pt.locs, Pt.cells, Pt.slots] at X20 l20 y20 z20 st20 hQ20
 subst l20 y20 z20
 obtain ⟨rfl, N20q, K20, Fn20, Fc20, tb20, kb20, Fv20, sz20, g_tb20, V20⟩ := hQ20
 have N20 := Fr.app N0 N20q
 have szk20 : h0.size ≤ tb20 := Nat.le_trans kp15.1 sz20
 have ne_r0_tb20 : r0 ≠ tb20 := Nat.ne_of_lt (Nat.lt_of_lt_of_le fa3.lt sz20)
 have ne_ox_tb20 : ox ≠ tb20 := Nat.ne_of_lt (Nat.lt_of_lt_of_le fa5.lt sz20)
 have ne_wx_tb20 : wx ≠ tb20 := Nat.ne_of_lt (Nat.lt_of_lt_of_le fa8.lt sz20)
 have ne_oz_tb20 : oz ≠ tb20 := Nat.ne_of_lt (Nat.lt_of_lt_of_le fa9.lt sz20)
 have ne_wz_tb20 : wz ≠ tb20 := Nat.ne_of_lt (Nat.lt_of_lt_of_le fa12.lt sz20)
 have ne_b1_tb20 : b1 ≠ tb20 := Nat.ne_of_lt (Nat.lt_of_lt_of_le A1.lt sz20)
 have sfn20 : Safe Z own_EL s.vm h1 tb20 := Safe.new sz20
 have ch21 : CHv Z own_EL s.vm T20.heap := ch2.keep K20 (allS sf2_b1 all0)
 have cr21 : CHr Z own_EL s.vm h0 s.vm T20.heap := cr2.trans (CHr.keep K20 (allS sf2_b1 all0) ch2)
 have sf21_b1 : Safe Z own_EL s.vm T20.heap b1 := Safe.keep K20 (allS sf2_b1 all0) ch2 sf2_b1
 have sf21_tb20 : Safe Z own_EL s.vm T20.heap tb20 := Safe.keep K20 (allS sf2_b1 all0) ch2 sfn20
 have fa22 := fa3.keep K20 (ninS ne_r0_b1 nin0)
 have fa23 := fa4.keep K20 (ninS ne_r0_b1 nin0)
 have fa24 := fa5.keep K20
 have fa25 := fa6.keep K20 (ninS ne_ox_b1 nin0)
 have fa26 := fa7.keep K20 (ninS ne_ox_b1 nin0)
 have fa27 := fa8.keep K20 (ninS ne_wx_b1 nin0)
 have fa28 := fa9.keep K20
 have fa29 := fa10.keep K20 (ninS ne_oz_b1 nin0)
 have fa30 := fa11.keep K20 (ninS ne_oz_b1 nin0)
 have fa31 := fa12.keep K20 (ninS ne_wz_b1 nin0)
 have fa32 := fa13.keep K20 (allS g_b1 all0)
 have fa33 := A1.keep K20
 have z34 : n0 ≤ T20.heap.size := Nat.le_trans z14 K20.1
 have hk := Nat.le_trans hk K20.1
 have kp35 : Keep h0 T20.heap [] := kp15.trans K20 (allS (Or.inr sz_b1) all0)
 obtain ⟨T36, X36, e36, st36⟩ := getF X20 hx hZ hown (host := "") (Or.inl (hq hw 56 rfl)) Via.refl rfl fa22 (g := (mkF m 8 #[rv r0] [(.ref r0), (.ref b1)])) rfl rfl (hb hby d11_8)
 have G37 : ∀ t, Steps p.tables e below (T36.setTop (mkF m 11 #[rv r0] [(.ref ox), (.ref b1)])) t → Steps p.tables e below (s₁.setTop (entryFrame m #[(.ref r0)] 1)) t := by
  intro t kt
  refine G19 _ ?_
  refine st20.trans ?_
  refine XS.aloadN X20.here hx rfl (hb hby d11_7) rfl rfl ?_
  refine st36 _ ?_
  exact kt
 obtain ⟨cq38, kq38, q38a, q38b, q38c⟩ := isOf hZ e36 fa33
 obtain ⟨_, _, ⟨T38, L38, k38, n38⟩, -, X38, ⟨Lc38, hQ38, l38, y38, z38⟩, st38⟩ := X36.virtualBack hx (y := (⟨"java/lang/StringBuilder", "append", "(Ljava/lang/String;)Ljava/lang/StringBuilder;"⟩ : MethodName)) (z := (⟨"java/lang/StringBuilder", "append", "(Ljava/lang/String;)Ljava/lang/StringBuilder;"⟩ : MethodName)) hown (mvT hZ (hq hw 83 rfl)) (mvT hZ (hq hw 84 rfl)) (notFace_of_selects (args := #[]) (mvT hZ (hq hw 86 rfl))) (mvT hZ (hq hw 86 rfl)) (mvT hZ (hq hw 85 rfl)) (by decide) (backOf (W := 0) (rm14 l Z a0 hw [] b1 ox tb20 kb20 own_z16 (0 : Int32) wx kyx nx vx cst fv T20.heap n0 z34 fa33 Fn20 Fc20 Fv20 V20 fa24 fa25 fa26 fa27 fa32 g_b1 g_tb20 ne_b1_tb20 ne_ox_tb20 ne_wx_tb20 (Ne.symm ne_ox_b1) (Ne.symm ne_wx_b1) ap1 ok1 SS) hZ (hq hw 87 rfl) (hq hw 67 rfl) (by decide) (by decide)) q38a q38c (g := (mkF m 11 #[rv r0] [(.ref ox), (.ref b1)])) rfl (by rw [hml]; rfl) (Steps.refl _) (argsL := [(.ref ox)]) (rest := []) (lenOf pd_22 rfl) rfl (by show 2 * 0 + _ ≤ _; exact Nat.le_of_eq rfl) (hb hby d11_11) (fun _ _ => ⟨rfl, e36, (by decide : 2 + 0 ≤ _), (by decide : 20 + 0 ≤ _)⟩)
 dsimp only [Pt.U, Pt.locs, Pt.cells, Pt.slots] at X38 l38 y38 z38 st38 hQ38
 subst l38 y38 z38
 obtain ⟨rfl, N38q, K38, Fn38, Fc38, Fv38, V38⟩ := hQ38
 have N38 := Fr.app N20 N38q
 have ch39 : CHv Z own_EL s.vm T38.heap := ch21.keep K38 (allS sf21_b1 (allS sf21_tb20 all0))
 have cr39 : CHr Z own_EL s.vm h0 s.vm T38.heap := cr21.trans (CHr.keep K38 (allS sf21_b1 (allS sf21_tb20 all0)) ch21)
 have sf39_b1 : Safe Z own_EL s.vm T38.heap b1 := Safe.keep K38 (allS sf21_b1 (allS sf21_tb20 all0)) ch21 sf21_b1
 have sf39_tb20 : Safe Z own_EL s.vm T38.heap tb20 := Safe.keep K38 (allS sf21_b1 (allS sf21_tb20 all0)) ch21 sf21_tb20
 have fa40 := fa22.keep K38 (ninS ne_r0_b1 (ninS ne_r0_tb20 nin0))
 have fa41 := fa23.keep K38 (ninS ne_r0_b1 (ninS ne_r0_tb20 nin0))
 have fa42 := fa24.keep K38
 have fa43 := fa25.keep K38 (ninS ne_ox_b1 (ninS ne_ox_tb20 nin0))
 have fa44 := fa26.keep K38 (ninS ne_ox_b1 (ninS ne_ox_tb20 nin0))
 have fa45 := fa27.keep K38 (ninS ne_wx_b1 (ninS ne_wx_tb20 nin0))
 have fa46 := fa28.keep K38
 have fa47 := fa29.keep K38 (ninS ne_oz_b1 (ninS ne_oz_tb20 nin0))
 have fa48 := fa30.keep K38 (ninS ne_oz_b1 (ninS ne_oz_tb20 nin0))
 have fa49 := fa31.keep K38 (ninS ne_wz_b1 (ninS ne_wz_tb20 nin0))
 have fa50 := fa32.keep K38 (allS g_b1 (allS g_tb20 all0))
 have fa51 := fa33.keep K38
 have z52 : n0 ≤ T38.heap.size := Nat.le_trans z34 K38.1
 have hk := Nat.le_trans hk K38.1
 have kp53 : Keep h0 T38.heap [] := kp35.trans K38 (allS (Or.inr sz_b1) (allS (Or.inr szk20) all0))
 have G54 : ∀ t, Steps p.tables e below (T38.setTop (mkF m 14 #[rv r0] [(.ref b1)])) t → Steps p.tables e below (s₁.setTop (entryFrame m #[(.ref r0)] 1)) t := by
  intro t kt
  refine G37 _ ?_
  refine st38.trans ?_
  exact kt
 obtain ⟨a55, T55, h55, k55, bb55, kb55, X55, e55, E55, hS, hk, hZ, hown, A55, Fc55, Fv55, V55, -, -, C55, -, hne55, st55⟩ := ldcCH (s := s) X38 hx hZ hown (hq hw 130 rfl) (fun d hd => hw d (own_satoms d hd)) rfl hS hk hEL (List.mem_of_getElem? (i := 1) rfl) ch39 (z := (1 : Int32)) ⟨by decide, rfl⟩ (by decide) rfl (g := (mkF m 14 #[rv r0] [(.ref b1)])) rfl (hb hby d11_14) (n := 4) (by decide) (by decide) (by decide) (by decide)
 have fa56 := fa40.ext E55
 have fa57 := fa41.ext E55
 have fa58 := fa42.ext E55
 have fa59 := fa43.ext E55
 have fa60 := fa44.ext E55
 have fa61 := fa45.ext E55
 have fa62 := fa46.ext E55
 have fa63 := fa47.ext E55
 have fa64 := fa48.ext E55
 have fa65 := fa49.ext E55
 have fa66 := fa50.ext E55
 have fa67 := fa51.ext E55
 have fa68 := Fn38.ext E55
 have fa69 := Fc38.ext E55
 have fa70 := Fv38.ext E55
 have fa71 := V38.ext E55
 have z72 : n0 ≤ h55.size := Nat.le_trans z52 E55.1
 have kp73 : Keep h0 h55 [] := kp53.ext E55
 have cr74 := cr39.trans C55
 have ch74 := C55.1
 have sf74_b1 := C55.safe fa51.lt sf39_b1
 have sf74_tb20 := C55.safe V38.lt sf39_tb20
 have ne_b1_a55 := (hne55 b1 sf74_b1).1
 have ne_b1_bb55 := (hne55 b1 sf74_b1).2
 have ne_tb20_a55 := (hne55 tb20 sf74_tb20).1
 have ne_tb20_bb55 := (hne55 tb20 sf74_tb20).2
 have fa75 : Arv Z h55 bb55 kb55 .byte (1 : Int32) [(.int (47 : Int32))] (.int (0 : Int32)) := V55
 have G76 : ∀ t, Steps p.tables e below (T55.setTop (mkF m 16 #[rv r0] [(.ref a55), (.ref b1)])) t → Steps p.tables e below (s₁.setTop (entryFrame m #[(.ref r0)] 1)) t := by
  intro t kt
  refine G54 _ ?_
  refine st55 _ ?_
  exact kt
 obtain ⟨cq77, kq77, q77a, q77b, q77c⟩ := isOf hZ e55 fa67
 obtain ⟨_, _, ⟨T77, L77, k77, n77⟩, -, X77, ⟨Lc77, hQ77, l77, y77, z77⟩, st77⟩ := X55.virtualBack hx (y := (⟨"java/lang/StringBuilder", "append", "(Ljava/lang/String;)Ljava/lang/StringBuilder;"⟩ : MethodName)) (z := (⟨"java/lang/StringBuilder", "append", "(Ljava/lang/String;)Ljava/lang/StringBuilder;"⟩ : MethodName)) hown (mvT hZ (hq hw 83 rfl)) (mvT hZ (hq hw 84 rfl)) (notFace_of_selects (args := #[]) (mvT hZ (hq hw 86 rfl))) (mvT hZ (hq hw 86 rfl)) (mvT hZ (hq hw 85 rfl)) (by decide) (backOf (W := 0) (rm14 l Z a0 hw [] b1 a55 tb20 kb20 (own_cp own_z16 vx ((0 : Int32) <<< ((0 : Int32) &&& 31)) nx) ((0 : Int32) + nx) bb55 kb55 (1 : Int32) [(.int (47 : Int32))] cst fv h55 n0 z72 fa67 fa68 fa69 fa70 fa71 A55 Fc55 Fv55 fa75 fa66 g_b1 g_tb20 ne_b1_tb20 (Ne.symm ne_tb20_a55) (Ne.symm ne_tb20_bb55) ne_b1_a55 ne_b1_bb55 ap2 ok2 SS) hZ (hq hw 87 rfl) (hq hw 67 rfl) (by decide) (by decide)) q77a q77c (g := (mkF m 16 #[rv r0] [(.ref a55), (.ref b1)])) rfl (by rw [hml]; rfl) (Steps.refl _) (argsL := [(.ref a55)]) (rest := []) (lenOf pd_22 rfl) rfl (by show 2 * 0 + _ ≤ _; exact Nat.le_of_eq rfl) (hb hby d11_16) (fun _ _ => ⟨rfl, e55, (by decide : 4 + 0 ≤ _), (by decide : 28 + 0 ≤ _)⟩)
 dsimp only [Pt.U, Pt.locs, Pt.cells, Pt.slots] at X77 l77 y77 z77 st77 hQ77
 subst l77 y77 z77
 obtain ⟨rfl, N77q, K77, Fn77, Fc77, Fv77, V77⟩ := hQ77
 have N77 := Fr.app N38 N77q
 have ch78 : CHv Z own_EL T55.vm T77.heap := ch74.keep K77 (allS sf74_b1 (allS sf74_tb20 all0))
 have cr78 : CHr Z own_EL s.vm h0 T55.vm T77.heap := cr74.trans (CHr.keep K77 (allS sf74_b1 (allS sf74_tb20 all0)) ch74)
 have sf78_b1 : Safe Z own_EL T55.vm T77.heap b1 := Safe.keep K77 (allS sf74_b1 (allS sf74_tb20 all0)) ch74 sf74_b1
 have sf78_tb20 : Safe Z own_EL T55.vm T77.heap tb20 := Safe.keep K77 (allS sf74_b1 (allS sf74_tb20 all0)) ch74 sf74_tb20
 have fa79 := fa56.keep K77 (ninS ne_r0_b1 (ninS ne_r0_tb20 nin0))
 have fa80 := fa57.keep K77 (ninS ne_r0_b1 (ninS ne_r0_tb20 nin0))
 have fa81 := fa58.keep K77
 have fa82 := fa59.keep K77 (ninS ne_ox_b1 (ninS ne_ox_tb20 nin0))
 have fa83 := fa60.keep K77 (ninS ne_ox_b1 (ninS ne_ox_tb20 nin0))
 have fa84 := fa61.keep K77 (ninS ne_wx_b1 (ninS ne_wx_tb20 nin0))
 have fa85 := fa62.keep K77
 have fa86 := fa63.keep K77 (ninS ne_oz_b1 (ninS ne_oz_tb20 nin0))
 have fa87 := fa64.keep K77 (ninS ne_oz_b1 (ninS ne_oz_tb20 nin0))
 have fa88 := fa65.keep K77 (ninS ne_wz_b1 (ninS ne_wz_tb20 nin0))
 have fa89 := fa66.keep K77 (allS g_b1 (allS g_tb20 all0))
 have fa90 := fa67.keep K77
 have fa91 := A55.keep K77
 have fa92 := Fc55.keep K77 (ninS (Ne.symm ne_b1_a55) (ninS (Ne.symm ne_tb20_a55) nin0))
 have fa93 := Fv55.keep K77 (ninS (Ne.symm ne_b1_a55) (ninS (Ne.symm ne_tb20_a55) nin0))
 have fa94 := fa75.keep K77 (ninS (Ne.symm ne_b1_bb55) (ninS (Ne.symm ne_tb20_bb55) nin0))
 have z95 : n0 ≤ T77.heap.size := Nat.le_trans z72 K77.1
 have hk := Nat.le_trans hk K77.1
 have kp96 : Keep h0 T77.heap [] := kp73.trans K77 (allS (Or.inr sz_b1) (allS (Or.inr szk20) all0))
 obtain ⟨T97, X97, e97, st97⟩ := getF X77 hx hZ hown (host := "") (Or.inl (hq hw 58 rfl)) Via.refl rfl fa80 (g := (mkF m 20 #[rv r0] [(.ref r0), (.ref b1)])) rfl rfl (hb hby d11_20)
 have G98 : ∀ t, Steps p.tables e below (T97.setTop (mkF m 23 #[rv r0] [(.ref oz), (.ref b1)])) t → Steps p.tables e below (s₁.setTop (entryFrame m #[(.ref r0)] 1)) t := by
  intro t kt
  refine G76 _ ?_
  refine st77.trans ?_
  refine XS.aloadN X77.here hx rfl (hb hby d11_19) rfl rfl ?_
  refine st97 _ ?_
  exact kt
 obtain ⟨cq99, kq99, q99a, q99b, q99c⟩ := isOf hZ e97 fa90
 obtain ⟨_, _, ⟨T99, L99, k99, n99⟩, -, X99, ⟨Lc99, hQ99, l99, y99, z99⟩, st99⟩ := X97.virtualBack hx (y := (⟨"java/lang/StringBuilder", "append", "(Ljava/lang/String;)Ljava/lang/StringBuilder;"⟩ : MethodName)) (z := (⟨"java/lang/StringBuilder", "append", "(Ljava/lang/String;)Ljava/lang/StringBuilder;"⟩ : MethodName)) hown (mvT hZ (hq hw 83 rfl)) (mvT hZ (hq hw 84 rfl)) (notFace_of_selects (args := #[]) (mvT hZ (hq hw 86 rfl))) (mvT hZ (hq hw 86 rfl)) (mvT hZ (hq hw 85 rfl)) (by decide) (backOf (W := 0) (rm14 l Z a0 hw [] b1 oz tb20 kb20 (own_cp (own_cp own_z16 vx ((0 : Int32) <<< ((0 : Int32) &&& 31)) nx) [(.int (47 : Int32))] (((0 : Int32) + nx) <<< ((0 : Int32) &&& 31)) (1 : Int32)) (((0 : Int32) + nx) + (1 : Int32)) wz kyz nz vz cst fv T77.heap n0 z95 fa90 Fn77 Fc77 Fv77 V77 fa85 fa86 fa87 fa88 fa89 g_b1 g_tb20 ne_b1_tb20 ne_oz_tb20 ne_wz_tb20 (Ne.symm ne_oz_b1) (Ne.symm ne_wz_b1) ap3 ok3 SS) hZ (hq hw 87 rfl) (hq hw 67 rfl) (by decide) (by decide)) q99a q99c (g := (mkF m 23 #[rv r0] [(.ref oz), (.ref b1)])) rfl (by rw [hml]; rfl) (Steps.refl _) (argsL := [(.ref oz)]) (rest := []) (lenOf pd_22 rfl) rfl (by show 2 * 0 + _ ≤ _; exact Nat.le_of_eq rfl) (hb hby d11_23) (fun _ _ => ⟨rfl, e97, (by decide : 4 + 0 ≤ _), (by decide : 28 + 0 ≤ _)⟩)
 dsimp only [Pt.U, Pt.locs, Pt.cells, Pt.slots] at X99 l99 y99 z99 st99 hQ99
 subst l99 y99 z99
 obtain ⟨rfl, N99q, K99, Fn99, Fc99, Fv99, V99⟩ := hQ99
 have N99 := Fr.app N77 N99q
 have ch100 : CHv Z own_EL T55.vm T99.heap := ch78.keep K99 (allS sf78_b1 (allS sf78_tb20 all0))
 have cr100 : CHr Z own_EL s.vm h0 T55.vm T99.heap := cr78.trans (CHr.keep K99 (allS sf78_b1 (allS sf78_tb20 all0)) ch78)
 have sf100_b1 : Safe Z own_EL T55.vm T99.heap b1 := Safe.keep K99 (allS sf78_b1 (allS sf78_tb20 all0)) ch78 sf78_b1
 have sf100_tb20 : Safe Z own_EL T55.vm T99.heap tb20 := Safe.keep K99 (allS sf78_b1 (allS sf78_tb20 all0)) ch78 sf78_tb20
 have fa101 := fa79.keep K99 (ninS ne_r0_b1 (ninS ne_r0_tb20 nin0))
 have fa102 := fa80.keep K99 (ninS ne_r0_b1 (ninS ne_r0_tb20 nin0))
 have fa103 := fa81.keep K99
 have fa104 := fa82.keep K99 (ninS ne_ox_b1 (ninS ne_ox_tb20 nin0))
 have fa105 := fa83.keep K99 (ninS ne_ox_b1 (ninS ne_ox_tb20 nin0))
 have fa106 := fa84.keep K99 (ninS ne_wx_b1 (ninS ne_wx_tb20 nin0))
 have fa107 := fa85.keep K99
 have fa108 := fa86.keep K99 (ninS ne_oz_b1 (ninS ne_oz_tb20 nin0))
 have fa109 := fa87.keep K99 (ninS ne_oz_b1 (ninS ne_oz_tb20 nin0))
 have fa110 := fa88.keep K99 (ninS ne_wz_b1 (ninS ne_wz_tb20 nin0))
 have fa111 := fa89.keep K99 (allS g_b1 (allS g_tb20 all0))
 have fa112 := fa90.keep K99
 have fa113 := fa91.keep K99
 have fa114 := fa92.keep K99 (ninS (Ne.symm ne_b1_a55) (ninS (Ne.symm ne_tb20_a55) nin0))
 have fa115 := fa93.keep K99 (ninS (Ne.symm ne_b1_a55) (ninS (Ne.symm ne_tb20_a55) nin0))
 have fa116 := fa94.keep K99 (ninS (Ne.symm ne_b1_bb55) (ninS (Ne.symm ne_tb20_bb55) nin0))
 have z117 : n0 ≤ T99.heap.size := Nat.le_trans z95 K99.1
 have hk := Nat.le_trans hk K99.1
 have kp118 : Keep h0 T99.heap [] := kp96.trans K99 (allS (Or.inr sz_b1) (allS (Or.inr szk20) all0))
 have G119 : ∀ t, Steps p.tables e below (T99.setTop (mkF m 26 #[rv r0] [(.ref b1)])) t → Steps p.tables e below (s₁.setTop (entryFrame m #[(.ref r0)] 1)) t := by
  intro t kt
  refine G98 _ ?_
  refine st99.trans ?_
  exact kt
 obtain ⟨cq120, kq120, q120a, q120b, q120c⟩ := isOf hZ rfl fa112
 obtain ⟨_, _, ⟨T120, L120, k120, n120⟩, -, X120, ⟨Lc120, hQ120, l120, y120, z120⟩, st120⟩ := X99.virtualBack hx (y := (⟨"java/lang/StringBuilder", "toString", "()Ljava/lang/String;"⟩ : MethodName)) (z := (⟨"java/lang/StringBuilder", "toString", "()Ljava/lang/String;"⟩ : MethodName)) hown (mvT hZ (hq hw 131 rfl)) (mvT hZ (hq hw 132 rfl)) (notFace_of_selects (args := #[]) (mvT hZ (hq hw 134 rfl))) (mvT hZ (hq hw 134 rfl)) (mvT hZ (hq hw 133 rfl)) (by decide) (backOf (W := 0) (rm22 l Z a0 hw [] b1 tb20 kb20 (own_cp (own_cp (own_cp own_z16 vx ((0 : Int32) <<< ((0 : Int32) &&& 31)) nx) [(.int (47 : Int32))] (((0 : Int32) + nx) <<< ((0 : Int32) &&& 31)) (1 : Int32)) vz ((((0 : Int32) + nx) + (1 : Int32)) <<< ((0 : Int32) &&& 31)) nz) ((((0 : Int32) + nx) + (1 : Int32)) + nz) cst fv T99.heap n0 z117 fa112 Fn99 Fc99 Fv99 V99 fa111 cr SS) hZ (hq hw 135 rfl) (hq hw 67 rfl) (by decide) (by decide)) q120a q120c (g := (mkF m 26 #[rv r0] [(.ref b1)])) rfl (by rw [hml]; rfl) (Steps.refl _) (argsL := []) (rest := []) (lenOf pd_23 rfl) rfl (by show 2 * 0 + _ ≤ _; exact Nat.le_of_eq rfl) (hb hby d11_26) (fun _ _ => ⟨rfl, rfl, (by decide : 4 + 2 ≤ _), (by decide : 28 + 12 ≤ _)⟩)
 dsimp only [Pt.U, Pt.locs, Pt.cells, Pt.slots] at X120 l120 y120 z120 st120 hQ120
 subst l120 y120 z120
 obtain ⟨s120, t120, kb120, rfl, N120q, K120, A120, Fc120, Fv120, V120⟩ := hQ120
 have N120 := Fr.app N99 N120q
 have ch121 : CHv Z own_EL T55.vm T120.heap := ch100.keep K120 all0
 have cr121 : CHr Z own_EL s.vm h0 T55.vm T120.heap := cr100.trans (CHr.keep K120 all0 ch100)
 have sf121_b1 : Safe Z own_EL T55.vm T120.heap b1 := Safe.keep K120 all0 ch100 sf100_b1
 have sf121_tb20 : Safe Z own_EL T55.vm T120.heap tb20 := Safe.keep K120 all0 ch100 sf100_tb20
 have fa122 := fa101.keep K120 nin0
 have fa123 := fa102.keep K120 nin0
 have fa124 := fa103.keep K120
 have fa125 := fa104.keep K120 nin0
 have fa126 := fa105.keep K120 nin0
 have fa127 := fa106.keep K120 nin0
 have fa128 := fa107.keep K120
 have fa129 := fa108.keep K120 nin0
 have fa130 := fa109.keep K120 nin0
 have fa131 := fa110.keep K120 nin0
 have fa132 := fa111.keep K120 all0
 have fa133 := fa112.keep K120
 have fa134 := fa113.keep K120
 have fa135 := fa114.keep K120 nin0
 have fa136 := fa115.keep K120 nin0
 have fa137 := fa116.keep K120 nin0
 have fa138 := Fn99.keep K120 nin0
 have fa139 := Fc99.keep K120 nin0
 have fa140 := Fv99.keep K120 nin0
 have fa141 := V99.keep K120 nin0
 have z142 : n0 ≤ T120.heap.size := Nat.le_trans z117 K120.1
 have hk := Nat.le_trans hk K120.1
 have kp143 : Keep h0 T120.heap [] := kp118.trans K120 all0
 obtain ⟨fs, hr, hrun, hended, hRW⟩ := X120.leaveW (s := s) hS (by rw [show T120.heap = T120.heap from rfl]; exact hk) (v := some (.ref s120)) (fun h => by rw [Bd.returns] at h; cases h) (BodyLoose.notSynchronized Bd)
 refine ⟨_, _, G119 _ ?_, hrun, hended, _, _, rfl, ?_, (show CHr Z own_EL s.vm s.heap T120.vm T120.heap from by rw [hh, show T120.heap = T120.heap from rfl]; exact cr121.trans (CHv.at X120 hZ hEL ch121)), hRW.1, hRW.2.1, hRW.2.2.1, hRW.2.2.2.mono (by decide) (by decide)⟩
 ·skip
  refine st120.trans ?_
  exact retOut X120 hx Bd.returns rfl (Or.inr (Or.inr (Or.inr (Or.inr ⟨rfl, rfl, rfl⟩)))) (hb hby d11_29) hr
 ·show Q11 Z r0 ox wx kyx nx vx oz wz kyz nz vz zz rs cst fv h0 n0 _ T120.heap _
  exact ⟨s120, t120, kb120, rfl, N120, kp143, A120, Fc120, Fv120, by rw [← hz, ← hrs]; exact V120⟩
theorem d33_0 : decode method_3_code 0 = .ok (.iload_n 1, 1) := by decide +kernel
theorem d33_1 : decode method_3_code 1 = .ok (.iload_n 2, 1) := by decide +kernel
theorem d33_2 : decode method_3_code 2 = .ok (.if_icmp .lt 5, 3) := by decide +kernel
theorem d33_5 : decode method_3_code 5 = .ok (.iconst 1, 1) := by decide +kernel
theorem d33_6 : decode method_3_code 6 = .ok (.ireturn, 1) := by decide +kernel
def QAt0 (Z : State) (r0 : Addr) (p1 : Int32) (p2 : Int32) (p3 : Int32) (r4 : Addr) (r5 : Addr) (h0 : Heap) (n0 : Nat) (v : Option Value) (h : Heap) (L : List Loc) : Prop := v = some (.int (1 : Int32)) ∧ Fr n0 L ∧ h = h0
theorem ef_rmAt0 (m : MethodId) (x0 : Addr) (x1 : Int32) (x2 : Int32) (x3 : Int32) (x4 : Addr) (x5 : Addr) : entryFrame m #[(.ref x0), (.int x1), (.int x2), (.int x3), (.ref x4), (.ref x5)] 7 = mkF m 0 #[.val (.ref x0), .val (.int x1), .val (.int x2), .val (.int x3), .val (.ref x4), .val (.ref x5), .unset] [] := by first | (simp [entryFrame, mkF, argsToLocals, Value.category]; done) | rfl
theorem pnc_com_example_fides_fides_RecordIdToStringPinLaw : plainName "com/example/fides/fides/RecordIdToStringPinLaw" = true := by first | (simp [plainName, overriddenIn]; done) | decide +kernel
set_option maxRecDepth 65536 in
set_option maxHeartbeats 40000000 in
theorem rmAt0 (l : Launch) (Z : State) (a0 : Array Value) (hw : ∀ d ∈ tables_1, d.before a0 Z = true) (ws : List Jvm.Cond) (r0 : Addr) (p1 : Int32) (p2 : Int32) (p3 : Int32) (r4 : Addr) (r5 : Addr) (h0 : Heap) (n0 : Nat) (Z0 : n0 ≤ h0.size) (hge : ¬ (p1 < p2)) :
  MetFree l (⟨"com/example/fides/fides/RecordIdToStringPinLaw", "at", "(Ljava/lang/String;III[C[C)Z"⟩ : MethodName) (head1 (Jvm.Cond.code (⟨"com/example/fides/fides/RecordIdToStringPinLaw", "at", "(Ljava/lang/String;III[C[C)Z"⟩ : MethodName) method_3_code 7 (some .boolean) :: ws) ({ frames := 4, cells := 0, slots := 0, locals := 53 } : Room)) (fun a U => a = #[(.ref r0), (.int p1), (.int p2), (.int p3), (.ref r4), (.ref r5)] ∧ Z.Warmed39 U.vm ∧ U.heap = h0) (fun _ _ _ _ _ => True) (fun _ U o U' => ∃ v L, o = .returned v ∧ QAt0 Z r0 p1 p2 p3 r4 r5 h0 n0 v U'.heap L ∧ FrameEnd U o U' L ({ frames := 4, cells := 0, slots := 0, locals := 53 } : Room).cells ({ frames := 4, cells := 0, slots := 0, locals := 53 } : Room).slots) := by
 refine MetFree.of_bodySF (plainFor_of_name pnc_com_example_fides_fides_RecordIdToStringPinLaw) hisR ?_
 intro p e s m args below meth c s₁ Bd hml0 hP hK
 obtain ⟨rfl, hZ, hh⟩ := hP
 have hx := Bd.exec
 have hby := Bd.bytes
 have hml : c.maxLocals = 7 := hml0
 have hown : s.vm.findClass "com/example/fides/fides/RecordIdToStringPinLaw" = some m.cls := findClass_of_methodNamed Bd.named
 have hnm := (name_of_methodNamed Bd.named Bd.method).1
 have X0 : Stand p l e ({ frames := 4, cells := 0, slots := 0, locals := 53 } : Room) s m #[(.ref r0), (.int p1), (.int p2), (.int p3), (.ref r4), (.ref r5)] below meth c s₁ [] 0 0 := Stand.of_body Bd
 have e0 : s₁.heap = h0 := by rw [← hh, Bd.state]; rfl
 have N0 := Fr.nil n0
 have kp0 : Keep h0 h0 [] := Keep.refl _ _
 have G0 : ∀ t, Steps p.tables e below (s₁.setTop (mkF m 0 #[rv r0, iv p1, iv p2, iv p3, rv r4, rv r5, .unset] [])) t → Steps p.tables e below (s₁.setTop (entryFrame m #[(.ref r0), (.int p1), (.int p2), (.int p3), (.ref r4), (.ref r5)] 7)) t := fun t k => castTop (ef_rmAt0 m r0 p1 p2 p3 r4 r5) k
 have G1 : ∀ t, Steps p.tables e below (s₁.setTop (mkF m 2 #[rv r0, iv p1, iv p2, iv p3, rv r4, rv r5, .unset] [(.int p2), (.int p1)])) t → Steps p.tables e below (s₁.setTop (entryFrame m #[(.ref r0), (.int p1), (.int p2), (.int p3), (.ref r4), (.ref r5)] 7)) t := by
  intro t kt
  refine G0 _ ?_
  refine XS.iloadN X0.here hx rfl (hb hby d33_0) rfl ?_
  refine XS.iloadN X0.here hx rfl (hb hby d33_1) rfl ?_
  exact kt
 have hc2_2 : ¬ (p1 < p2) := hge
 obtain ⟨fs, hr, hrun, hended, hW, hsame⟩ := X0.leave (v := some (.int (1 : Int32))) (fun h => by rw [Bd.returns] at h; cases h)
 refine ⟨_, _, G1 _ ?_, hrun, hended, _, _, rfl, ?_, ⟨_, rfl⟩, hW, hsame.mono (by decide) (by decide)⟩
 ·skip
  refine XS.icmpNo X0.here hx rfl (hb hby d33_2) rfl (flt hc2_2).1 ?_
  refine XS.iconst X0.here hx rfl (hb hby d33_5) ?_
  exact retN X0 hx (t := .boolean) Bd.returns (by simp) (hb hby d33_6) hr
 ·show QAt0 Z r0 p1 p2 p3 r4 r5 h0 n0 _ s₁.heap _
  rw [e0]
  exact ⟨rfl, N0, rfl⟩
theorem d33_7 : decode method_3_code 7 = .ok (.iload_n 1, 1) := by decide +kernel
theorem d33_8 : decode method_3_code 8 = .ok (.iload_n 3, 1) := by decide +kernel
theorem d33_9 : decode method_3_code 9 = .ok (.if_icmp .ge 12, 3) := by decide +kernel
theorem d33_12 : decode method_3_code 12 = .ok (.aload 4, 2) := by decide +kernel
theorem d33_14 : decode method_3_code 14 = .ok (.iload_n 1, 1) := by decide +kernel
theorem d33_15 : decode method_3_code 15 = .ok (.caload, 1) := by decide +kernel
theorem d33_16 : decode method_3_code 16 = .ok (.istore 6, 2) := by decide +kernel
theorem d33_18 : decode method_3_code 18 = .ok (.goto 25, 3) := by decide +kernel
theorem d33_43 : decode method_3_code 43 = .ok (.aload_n 0, 1) := by decide +kernel
theorem d33_44 : decode method_3_code 44 = .ok (.iload_n 1, 1) := by decide +kernel
theorem d33_45 : decode method_3_code 45 = .ok (.invokevirtual 31, 3) := by decide +kernel
theorem pd_24 : parseMethodDescriptor "(I)C" = some ⟨[.int], some .char⟩ := by decide +kernel
theorem d33_48 : decode method_3_code 48 = .ok (.iload 6, 2) := by decide +kernel
theorem d33_50 : decode method_3_code 50 = .ok (.if_icmp .ne 7, 3) := by decide +kernel
theorem d33_53 : decode method_3_code 53 = .ok (.iconst 1, 1) := by decide +kernel
theorem d33_54 : decode method_3_code 54 = .ok (.goto 4, 3) := by decide +kernel
theorem d33_58 : decode method_3_code 58 = .ok (.ireturn, 1) := by decide +kernel
def QAt1 (Z : State) (r0 : Addr) (p1 : Int32) (p2 : Int32) (p3 : Int32) (r4 : Addr) (r5 : Addr) (ta : Addr) (kk : ClassId) (nn : Int32) (vs : List Value) (xx cc : Int32) (ka : ClassId) (na : Int32) (va : List Value) (cst : Int32) (fv : Value) (h0 : Heap) (n0 : Nat) (v : Option Value) (h : Heap) (L : List Loc) : Prop := v = some (.int (1 : Int32)) ∧ Fr n0 L ∧ h = h0
theorem ef_rmAt1 (m : MethodId) (x0 : Addr) (x1 : Int32) (x2 : Int32) (x3 : Int32) (x4 : Addr) (x5 : Addr) : entryFrame m #[(.ref x0), (.int x1), (.int x2), (.int x3), (.ref x4), (.ref x5)] 7 = mkF m 0 #[.val (.ref x0), .val (.int x1), .val (.int x2), .val (.int x3), .val (.ref x4), .val (.ref x5), .unset] [] := by first | (simp [entryFrame, mkF, argsToLocals, Value.category]; done) | rfl
set_option maxRecDepth 65536 in
set_option maxHeartbeats 40000000 in
theorem rmAt1 (l : Launch) (Z : State) (a0 : Array Value) (hw : ∀ d ∈ tables_1, d.before a0 Z = true) (ws : List Jvm.Cond) (r0 : Addr) (p1 : Int32) (p2 : Int32) (p3 : Int32) (r4 : Addr) (r5 : Addr) (ta : Addr) (kk : ClassId) (nn : Int32) (vs : List Value) (xx cc : Int32) (ka : ClassId) (na : Int32) (va : List Value) (cst : Int32) (fv : Value) (h0 : Heap) (n0 : Nat) (Z0 : n0 ≤ h0.size) (Ey : Exa Z h0 r0 "java/lang/String") (Fcy : Fld Z h0 r0 "java/lang/String" "coder" "B" (.int (0 : Int32))) (Fvy : Fld Z h0 r0 "java/lang/String" "value" "[B" (.ref ta)) (V0 : Arv Z h0 ta kk .byte nn vs (.int (0 : Int32))) (Va : Arv Z h0 r4 ka .char na va (.int (0 : Int32))) (O0 : Old Z n0 h0) (hlt : p1 < p2) (hlo : ¬ (p1 < (0 : Int32))) (hhi : p1 < nn) (g0 : vs.getD (p1).toNatClampNeg (.int (0 : Int32)) = .int xx) (hres : nar .char (fchL xx) = cc) (ia : ¬ p1 < 0 ∧ p1 < na) (ga : va.getD (p1).toNatClampNeg (.int (0 : Int32)) = .int cc) (h3 : p1 < p3) (SS : Sts Z cst fv) :
  MetFree l (⟨"com/example/fides/fides/RecordIdToStringPinLaw", "at", "(Ljava/lang/String;III[C[C)Z"⟩ : MethodName) (head1 (Jvm.Cond.code (⟨"com/example/fides/fides/RecordIdToStringPinLaw", "at", "(Ljava/lang/String;III[C[C)Z"⟩ : MethodName) method_3_code 7 (some .boolean) :: ws) ({ frames := 4, cells := 0, slots := 0, locals := 53 } : Room)) (fun a U => a = #[(.ref r0), (.int p1), (.int p2), (.int p3), (.ref r4), (.ref r5)] ∧ Z.Warmed39 U.vm ∧ U.heap = h0) (fun _ _ _ _ _ => True) (fun _ U o U' => ∃ v L, o = .returned v ∧ QAt1 Z r0 p1 p2 p3 r4 r5 ta kk nn vs xx cc ka na va cst fv h0 n0 v U'.heap L ∧ FrameEnd U o U' L ({ frames := 4, cells := 0, slots := 0, locals := 53 } : Room).cells ({ frames := 4, cells := 0, slots := 0, locals := 53 } : Room).slots) := by
 refine MetFree.of_bodySF (plainFor_of_name pnc_com_example_fides_fides_RecordIdToStringPinLaw) hisR ?_
 intro p e s m args below meth c s₁ Bd hml0 hP hK
 obtain ⟨rfl, hZ, hh⟩ := hP
 have hx := Bd.exec
 have hby := Bd.bytes
 have hml : c.maxLocals = 7 := hml0
 have hown : s.vm.findClass "com/example/fides/fides/RecordIdToStringPinLaw" = some m.cls := findClass_of_methodNamed Bd.named
 have hnm := (name_of_methodNamed Bd.named Bd.method).1
 have X0 : Stand p l e ({ frames := 4, cells := 0, slots := 0, locals := 53 } : Room) s m #[(.ref r0), (.int p1), (.int p2), (.int p3), (.ref r4), (.ref r5)] below meth c s₁ [] 0 0 := Stand.of_body Bd
 have e0 : s₁.heap = h0 := by rw [← hh, Bd.state]; rfl
 have N0 := Fr.nil n0
 have kp0 : Keep h0 h0 [] := Keep.refl _ _
 have G0 : ∀ t, Steps p.tables e below (s₁.setTop (mkF m 0 #[rv r0, iv p1, iv p2, iv p3, rv r4, rv r5, .unset] [])) t → Steps p.tables e below (s₁.setTop (entryFrame m #[(.ref r0), (.int p1), (.int p2), (.int p3), (.ref r4), (.ref r5)] 7)) t := fun t k => castTop (ef_rmAt1 m r0 p1 p2 p3 r4 r5) k
 obtain ⟨cl, Ar, qk, Sz, Mz, Hz, Gz⟩ := id Va
 have hin0 : ¬ (p1 < 0 ∨ cl.slots.size ≤ (p1).toNatClampNeg) := inb_of Sz ia
 have hat0 : cl.slots[(p1).toNatClampNeg]? = some (.int cc) := Hz.at hin0 ga
 have G1 : ∀ t, Steps p.tables e below (s₁.setTop (mkF m 2 #[rv r0, iv p1, iv p2, iv p3, rv r4, rv r5, .unset] [(.int p2), (.int p1)])) t → Steps p.tables e below (s₁.setTop (entryFrame m #[(.ref r0), (.int p1), (.int p2), (.int p3), (.ref r4), (.ref r5)] 7)) t := by
  intro t kt
  refine G0 _ ?_
  refine XS.iloadN X0.here hx rfl (hb hby d33_0) rfl ?_
  refine XS.iloadN X0.here hx rfl (hb hby d33_1) rfl ?_
  exact kt
 have hc2_2 : p1 < p2 := hlt
 have G3 : ∀ t, Steps p.tables e below (s₁.setTop (mkF m 9 #[rv r0, iv p1, iv p2, iv p3, rv r4, rv r5, .unset] [(.int p3), (.int p1)])) t → Steps p.tables e below (s₁.setTop (entryFrame m #[(.ref r0), (.int p1), (.int p2), (.int p3), (.ref r4), (.ref r5)] 7)) t := by
  intro t kt
  refine G1 _ ?_
  refine XS.icmpYes X0.here hx rfl (pc0 := 2) (pc' := 7) rfl (hb hby d33_2) rfl (tlt hc2_2).1 (by decide) (by decide) ?_
  refine XS.iloadN X0.here hx rfl (hb hby d33_7) rfl ?_
  refine XS.iloadN X0.here hx rfl (hb hby d33_8) rfl ?_
  exact kt
 have hc9_4 : p1 < p3 := h3
 obtain ⟨cq5, kq5, q5a, q5b, q5c⟩ := isOf hZ e0 Ey
 obtain ⟨_, _, ⟨T5, L5, k5, n5⟩, -, X5, ⟨Lc5, hQ5, l5, y5, z5⟩, st5⟩ := X0.virtualBack hx (y := (⟨"java/lang/String", "charAt", "(I)C"⟩ : MethodName)) (z := (⟨"java/lang/String", "charAt", "(I)C"⟩ : MethodName)) hown (mvT hZ (hq hw 181 rfl)) (mvT hZ (hq hw 182 rfl)) (notFace_of_selects (args := #[]) (mvT hZ (hq hw 184 rfl))) (mvT hZ (hq hw 184 rfl)) (mvT hZ (hq hw 183 rfl)) (by decide) (backOf (W := 0) (rmChL l Z a0 hw [] r0 p1 ta kk nn vs xx cc cst fv h0 n0 Z0 Ey Fcy Fvy V0 O0 hlo hhi g0 hres SS) hZ (hq hw 185 rfl) (hq hw 3 rfl) (by decide) (by decide)) q5a q5c (g := (mkF m 45 #[rv r0, iv p1, iv p2, iv p3, rv r4, rv r5, iv cc] [(.int p1), (.ref r0)])) rfl (by rw [hml]; rfl) (Steps.refl _) (argsL := [(.int p1)]) (rest := []) (lenOf pd_24 rfl) rfl (by show 2 * 0 + _ ≤ _; exact Nat.le_of_eq rfl) (hb hby d33_45) (fun _ _ => ⟨rfl, e0, (by decide : 0 + 0 ≤ _), (by decide : 0 + 0 ≤ _)⟩)
 dsimp only [Pt.U, Pt.locs, Pt.cells, Pt.slots] at X5 l5 y5 z5 st5 hQ5
 subst l5 y5 z5
 obtain ⟨rfl, N5q, eh5⟩ := hQ5
 have N5 := Fr.app N0 N5q
 have G6 : ∀ t, Steps p.tables e below (T5.setTop (mkF m 50 #[rv r0, iv p1, iv p2, iv p3, rv r4, rv r5, iv cc] [(.int cc), (.int cc)])) t → Steps p.tables e below (s₁.setTop (entryFrame m #[(.ref r0), (.int p1), (.int p2), (.int p3), (.ref r4), (.ref r5)] 7)) t := by
  intro t kt
  refine G3 _ ?_
  refine XS.icmpNo X0.here hx rfl (hb hby d33_9) rfl (tlt hc9_4).2.1 ?_
  refine XS.aload X0.here hx rfl (hb hby d33_12) rfl rfl ?_
  refine XS.iloadN X0.here hx rfl (hb hby d33_14) rfl ?_
  refine X0.caload hx (j := p1) (v := (.int cc)) (by rw [e0]; exact Ar.1) (State.isArrayOf_alike hZ.alike Ar.2.1) Ar.2.2 hin0 hat0 (g := (mkF m 15 #[rv r0, iv p1, iv p2, iv p3, rv r4, rv r5, .unset] [(.int p1), (.ref r4)])) rfl rfl (hb hby d33_15) _ ?_
  refine XS.istore X0.here hx rfl (hb hby d33_16) rfl (l' := #[rv r0, iv p1, iv p2, iv p3, rv r4, rv r5, iv cc]) rfl ?_
  refine XS.goto X0.here hx rfl (pc0 := 18) (pc' := 43) rfl (hb hby d33_18) (by decide) (by decide) ?_
  refine XS.aloadN X0.here hx rfl (hb hby d33_43) rfl rfl ?_
  refine XS.iloadN X0.here hx rfl (hb hby d33_44) rfl ?_
  refine st5.trans ?_
  refine XS.iload X5.here hx rfl (hb hby d33_48) rfl ?_
  exact kt
 obtain ⟨fs, hr, hrun, hended, hW, hsame⟩ := X5.leave (v := some (.int (1 : Int32))) (fun h => by rw [Bd.returns] at h; cases h)
 refine ⟨_, _, G6 _ ?_, hrun, hended, _, _, rfl, ?_, ⟨_, rfl⟩, hW, hsame.mono (by decide) (by decide)⟩
 ·skip
  refine XS.icmpNo X5.here hx rfl (hb hby d33_50) rfl (teq rfl).2 ?_
  refine XS.iconst X5.here hx rfl (hb hby d33_53) ?_
  refine XS.goto X5.here hx rfl (pc0 := 54) (pc' := 58) rfl (hb hby d33_54) (by decide) (by decide) ?_
  exact retN X5 hx (t := .boolean) Bd.returns (by simp) (hb hby d33_58) hr
 ·show QAt1 Z r0 p1 p2 p3 r4 r5 ta kk nn vs xx cc ka na va cst fv h0 n0 _ T5.heap _
  rw [eh5]
  exact ⟨rfl, N5, rfl⟩
theorem d33_21 : decode method_3_code 21 = .ok (.iload_n 1, 1) := by decide +kernel
theorem d33_22 : decode method_3_code 22 = .ok (.iload_n 3, 1) := by decide +kernel
theorem d33_23 : decode method_3_code 23 = .ok (.if_icmp .ne 10, 3) := by decide +kernel
theorem d33_33 : decode method_3_code 33 = .ok (.aload 5, 2) := by decide +kernel
theorem d33_35 : decode method_3_code 35 = .ok (.iload_n 1, 1) := by decide +kernel
theorem d33_36 : decode method_3_code 36 = .ok (.iload_n 3, 1) := by decide +kernel
theorem d33_37 : decode method_3_code 37 = .ok (.isub, 1) := by decide +kernel
theorem d33_38 : decode method_3_code 38 = .ok (.iconst 1, 1) := by decide +kernel
theorem d33_39 : decode method_3_code 39 = .ok (.isub, 1) := by decide +kernel
theorem d33_40 : decode method_3_code 40 = .ok (.caload, 1) := by decide +kernel
theorem d33_41 : decode method_3_code 41 = .ok (.istore 6, 2) := by decide +kernel
def QAt2 (Z : State) (r0 : Addr) (p1 : Int32) (p2 : Int32) (p3 : Int32) (r4 : Addr) (r5 : Addr) (ta : Addr) (kk : ClassId) (nn : Int32) (vs : List Value) (xx cc : Int32) (ka : ClassId) (na : Int32) (va : List Value) (cst : Int32) (fv : Value) (h0 : Heap) (n0 : Nat) (v : Option Value) (h : Heap) (L : List Loc) : Prop := v = some (.int (1 : Int32)) ∧ Fr n0 L ∧ h = h0
theorem ef_rmAt2 (m : MethodId) (x0 : Addr) (x1 : Int32) (x2 : Int32) (x3 : Int32) (x4 : Addr) (x5 : Addr) : entryFrame m #[(.ref x0), (.int x1), (.int x2), (.int x3), (.ref x4), (.ref x5)] 7 = mkF m 0 #[.val (.ref x0), .val (.int x1), .val (.int x2), .val (.int x3), .val (.ref x4), .val (.ref x5), .unset] [] := by first | (simp [entryFrame, mkF, argsToLocals, Value.category]; done) | rfl
set_option maxRecDepth 65536 in
set_option maxHeartbeats 40000000 in
theorem rmAt2 (l : Launch) (Z : State) (a0 : Array Value) (hw : ∀ d ∈ tables_1, d.before a0 Z = true) (ws : List Jvm.Cond) (r0 : Addr) (p1 : Int32) (p2 : Int32) (p3 : Int32) (r4 : Addr) (r5 : Addr) (ta : Addr) (kk : ClassId) (nn : Int32) (vs : List Value) (xx cc : Int32) (ka : ClassId) (na : Int32) (va : List Value) (cst : Int32) (fv : Value) (h0 : Heap) (n0 : Nat) (Z0 : n0 ≤ h0.size) (Ey : Exa Z h0 r0 "java/lang/String") (Fcy : Fld Z h0 r0 "java/lang/String" "coder" "B" (.int (0 : Int32))) (Fvy : Fld Z h0 r0 "java/lang/String" "value" "[B" (.ref ta)) (V0 : Arv Z h0 ta kk .byte nn vs (.int (0 : Int32))) (Va : Arv Z h0 r5 ka .char na va (.int (0 : Int32))) (O0 : Old Z n0 h0) (hlt : p1 < p2) (hlo : ¬ (p1 < (0 : Int32))) (hhi : p1 < nn) (g0 : vs.getD (p1).toNatClampNeg (.int (0 : Int32)) = .int xx) (hres : nar .char (fchL xx) = cc) (ia : ¬ ((p1 - p3) - (1 : Int32)) < 0 ∧ ((p1 - p3) - (1 : Int32)) < na) (ga : va.getD (((p1 - p3) - (1 : Int32))).toNatClampNeg (.int (0 : Int32)) = .int cc) (h3 : ¬ (p1 < p3)) (h4 : ¬ (p1 = p3)) (SS : Sts Z cst fv) :
  MetFree l (⟨"com/example/fides/fides/RecordIdToStringPinLaw", "at", "(Ljava/lang/String;III[C[C)Z"⟩ : MethodName) (head1 (Jvm.Cond.code (⟨"com/example/fides/fides/RecordIdToStringPinLaw", "at", "(Ljava/lang/String;III[C[C)Z"⟩ : MethodName) method_3_code 7 (some .boolean) :: ws) ({ frames := 4, cells := 0, slots := 0, locals := 53 } : Room)) (fun a U => a = #[(.ref r0), (.int p1), (.int p2), (.int p3), (.ref r4), (.ref r5)] ∧ Z.Warmed39 U.vm ∧ U.heap = h0) (fun _ _ _ _ _ => True) (fun _ U o U' => ∃ v L, o = .returned v ∧ QAt2 Z r0 p1 p2 p3 r4 r5 ta kk nn vs xx cc ka na va cst fv h0 n0 v U'.heap L ∧ FrameEnd U o U' L ({ frames := 4, cells := 0, slots := 0, locals := 53 } : Room).cells ({ frames := 4, cells := 0, slots := 0, locals := 53 } : Room).slots) := by
 refine MetFree.of_bodySF (plainFor_of_name pnc_com_example_fides_fides_RecordIdToStringPinLaw) hisR ?_
 intro p e s m args below meth c s₁ Bd hml0 hP hK
 obtain ⟨rfl, hZ, hh⟩ := hP
 have hx := Bd.exec
 have hby := Bd.bytes
 have hml : c.maxLocals = 7 := hml0
 have hown : s.vm.findClass "com/example/fides/fides/RecordIdToStringPinLaw" = some m.cls := findClass_of_methodNamed Bd.named
 have hnm := (name_of_methodNamed Bd.named Bd.method).1
 have X0 : Stand p l e ({ frames := 4, cells := 0, slots := 0, locals := 53 } : Room) s m #[(.ref r0), (.int p1), (.int p2), (.int p3), (.ref r4), (.ref r5)] below meth c s₁ [] 0 0 := Stand.of_body Bd
 have e0 : s₁.heap = h0 := by rw [← hh, Bd.state]; rfl
 have N0 := Fr.nil n0
 have kp0 : Keep h0 h0 [] := Keep.refl _ _
 have G0 : ∀ t, Steps p.tables e below (s₁.setTop (mkF m 0 #[rv r0, iv p1, iv p2, iv p3, rv r4, rv r5, .unset] [])) t → Steps p.tables e below (s₁.setTop (entryFrame m #[(.ref r0), (.int p1), (.int p2), (.int p3), (.ref r4), (.ref r5)] 7)) t := fun t k => castTop (ef_rmAt2 m r0 p1 p2 p3 r4 r5) k
 obtain ⟨cl, Ar, qk, Sz, Mz, Hz, Gz⟩ := id Va
 have hin0 : ¬ (((p1 - p3) - (1 : Int32)) < 0 ∨ cl.slots.size ≤ (((p1 - p3) - (1 : Int32))).toNatClampNeg) := inb_of Sz ia
 have hat0 : cl.slots[(((p1 - p3) - (1 : Int32))).toNatClampNeg]? = some (.int cc) := Hz.at hin0 ga
 have G1 : ∀ t, Steps p.tables e below (s₁.setTop (mkF m 2 #[rv r0, iv p1, iv p2, iv p3, rv r4, rv r5, .unset] [(.int p2), (.int p1)])) t → Steps p.tables e below (s₁.setTop (entryFrame m #[(.ref r0), (.int p1), (.int p2), (.int p3), (.ref r4), (.ref r5)] 7)) t := by
  intro t kt
  refine G0 _ ?_
  refine XS.iloadN X0.here hx rfl (hb hby d33_0) rfl ?_
  refine XS.iloadN X0.here hx rfl (hb hby d33_1) rfl ?_
  exact kt
 have hc2_2 : p1 < p2 := hlt
 have G3 : ∀ t, Steps p.tables e below (s₁.setTop (mkF m 9 #[rv r0, iv p1, iv p2, iv p3, rv r4, rv r5, .unset] [(.int p3), (.int p1)])) t → Steps p.tables e below (s₁.setTop (entryFrame m #[(.ref r0), (.int p1), (.int p2), (.int p3), (.ref r4), (.ref r5)] 7)) t := by
  intro t kt
  refine G1 _ ?_
  refine XS.icmpYes X0.here hx rfl (pc0 := 2) (pc' := 7) rfl (hb hby d33_2) rfl (tlt hc2_2).1 (by decide) (by decide) ?_
  refine XS.iloadN X0.here hx rfl (hb hby d33_7) rfl ?_
  refine XS.iloadN X0.here hx rfl (hb hby d33_8) rfl ?_
  exact kt
 have hc9_4 : ¬ (p1 < p3) := h3
 have G5 : ∀ t, Steps p.tables e below (s₁.setTop (mkF m 23 #[rv r0, iv p1, iv p2, iv p3, rv r4, rv r5, .unset] [(.int p3), (.int p1)])) t → Steps p.tables e below (s₁.setTop (entryFrame m #[(.ref r0), (.int p1), (.int p2), (.int p3), (.ref r4), (.ref r5)] 7)) t := by
  intro t kt
  refine G3 _ ?_
  refine XS.icmpYes X0.here hx rfl (pc0 := 9) (pc' := 21) rfl (hb hby d33_9) rfl (flt hc9_4).2.1 (by decide) (by decide) ?_
  refine XS.iloadN X0.here hx rfl (hb hby d33_21) rfl ?_
  refine XS.iloadN X0.here hx rfl (hb hby d33_22) rfl ?_
  exact kt
 have hc23_6 : ¬ (p1 = p3) := h4
 obtain ⟨cq7, kq7, q7a, q7b, q7c⟩ := isOf hZ e0 Ey
 obtain ⟨_, _, ⟨T7, L7, k7, n7⟩, -, X7, ⟨Lc7, hQ7, l7, y7, z7⟩, st7⟩ := X0.virtualBack hx (y := (⟨"java/lang/String", "charAt", "(I)C"⟩ : MethodName)) (z := (⟨"java/lang/String", "charAt", "(I)C"⟩ : MethodName)) hown (mvT hZ (hq hw 181 rfl)) (mvT hZ (hq hw 182 rfl)) (notFace_of_selects (args := #[]) (mvT hZ (hq hw 184 rfl))) (mvT hZ (hq hw 184 rfl)) (mvT hZ (hq hw 183 rfl)) (by decide) (backOf (W := 0) (rmChL l Z a0 hw [] r0 p1 ta kk nn vs xx cc cst fv h0 n0 Z0 Ey Fcy Fvy V0 O0 hlo hhi g0 hres SS) hZ (hq hw 185 rfl) (hq hw 3 rfl) (by decide) (by decide)) q7a q7c (g := (mkF m 45 #[rv r0, iv p1, iv p2, iv p3, rv r4, rv r5, iv cc] [(.int p1), (.ref r0)])) rfl (by rw [hml]; rfl) (Steps.refl _) (argsL := [(.int p1)]) (rest := []) (lenOf pd_24 rfl) rfl (by show 2 * 0 + _ ≤ _; exact Nat.le_of_eq rfl) (hb hby d33_45) (fun _ _ => ⟨rfl, e0, (by decide : 0 + 0 ≤ _), (by decide : 0 + 0 ≤ _)⟩)
 dsimp only [Pt.U, Pt.locs, Pt.cells, Pt.slots] at X7 l7 y7 z7 st7 hQ7
 subst l7 y7 z7
 obtain ⟨rfl, N7q, eh7⟩ := hQ7
 have N7 := Fr.app N0 N7q
 have G8 : ∀ t, Steps p.tables e below (T7.setTop (mkF m 50 #[rv r0, iv p1, iv p2, iv p3, rv r4, rv r5, iv cc] [(.int cc), (.int cc)])) t → Steps p.tables e below (s₁.setTop (entryFrame m #[(.ref r0), (.int p1), (.int p2), (.int p3), (.ref r4), (.ref r5)] 7)) t := by
  intro t kt
  refine G5 _ ?_
  refine XS.icmpYes X0.here hx rfl (pc0 := 23) (pc' := 33) rfl (hb hby d33_23) rfl (feq hc23_6).2 (by decide) (by decide) ?_
  refine XS.aload X0.here hx rfl (hb hby d33_33) rfl rfl ?_
  refine XS.iloadN X0.here hx rfl (hb hby d33_35) rfl ?_
  refine XS.iloadN X0.here hx rfl (hb hby d33_36) rfl ?_
  refine XS.isub X0.here hx rfl (hb hby d33_37) rfl ?_
  refine XS.iconst X0.here hx rfl (hb hby d33_38) ?_
  refine XS.isub X0.here hx rfl (hb hby d33_39) rfl ?_
  refine X0.caload hx (j := ((p1 - p3) - (1 : Int32))) (v := (.int cc)) (by rw [e0]; exact Ar.1) (State.isArrayOf_alike hZ.alike Ar.2.1) Ar.2.2 hin0 hat0 (g := (mkF m 40 #[rv r0, iv p1, iv p2, iv p3, rv r4, rv r5, .unset] [(.int ((p1 - p3) - (1 : Int32))), (.ref r5)])) rfl rfl (hb hby d33_40) _ ?_
  refine XS.istore X0.here hx rfl (hb hby d33_41) rfl (l' := #[rv r0, iv p1, iv p2, iv p3, rv r4, rv r5, iv cc]) rfl ?_
  refine XS.aloadN X0.here hx rfl (hb hby d33_43) rfl rfl ?_
  refine XS.iloadN X0.here hx rfl (hb hby d33_44) rfl ?_
  refine st7.trans ?_
  refine XS.iload X7.here hx rfl (hb hby d33_48) rfl ?_
  exact kt
 obtain ⟨fs, hr, hrun, hended, hW, hsame⟩ := X7.leave (v := some (.int (1 : Int32))) (fun h => by rw [Bd.returns] at h; cases h)
 refine ⟨_, _, G8 _ ?_, hrun, hended, _, _, rfl, ?_, ⟨_, rfl⟩, hW, hsame.mono (by decide) (by decide)⟩
 ·skip
  refine XS.icmpNo X7.here hx rfl (hb hby d33_50) rfl (teq rfl).2 ?_
  refine XS.iconst X7.here hx rfl (hb hby d33_53) ?_
  show Steps p.tables e below (T7.setTop (mkF m 54 #[rv r0, iv p1, iv p2, iv p3, rv r4, rv r5, iv cc] [(.int (1 : Int32))])) _
  refine XS.goto X7.here hx rfl (pc0 := 54) (pc' := 58) rfl (hb hby d33_54) (by decide) (by decide) ?_
  exact retN X7 hx (t := .boolean) Bd.returns (by simp) (hb hby d33_58) hr
 ·show QAt2 Z r0 p1 p2 p3 r4 r5 ta kk nn vs xx cc ka na va cst fv h0 n0 _ T7.heap _
  rw [eh7]
  exact ⟨rfl, N7, rfl⟩
theorem d33_26 : decode method_3_code 26 = .ok (.bipush 47, 2) := by decide +kernel
theorem d33_28 : decode method_3_code 28 = .ok (.istore 6, 2) := by decide +kernel
theorem d33_30 : decode method_3_code 30 = .ok (.goto 13, 3) := by decide +kernel
def QAt3 (Z : State) (r0 : Addr) (p1 : Int32) (p2 : Int32) (p3 : Int32) (r4 : Addr) (r5 : Addr) (ta : Addr) (kk : ClassId) (nn : Int32) (vs : List Value) (xx : Int32) (cst : Int32) (fv : Value) (h0 : Heap) (n0 : Nat) (v : Option Value) (h : Heap) (L : List Loc) : Prop := v = some (.int (1 : Int32)) ∧ Fr n0 L ∧ h = h0
theorem ef_rmAt3 (m : MethodId) (x0 : Addr) (x1 : Int32) (x2 : Int32) (x3 : Int32) (x4 : Addr) (x5 : Addr) : entryFrame m #[(.ref x0), (.int x1), (.int x2), (.int x3), (.ref x4), (.ref x5)] 7 = mkF m 0 #[.val (.ref x0), .val (.int x1), .val (.int x2), .val (.int x3), .val (.ref x4), .val (.ref x5), .unset] [] := by first | (simp [entryFrame, mkF, argsToLocals, Value.category]; done) | rfl
set_option maxRecDepth 65536 in
set_option maxHeartbeats 40000000 in
theorem rmAt3 (l : Launch) (Z : State) (a0 : Array Value) (hw : ∀ d ∈ tables_1, d.before a0 Z = true) (ws : List Jvm.Cond) (r0 : Addr) (p1 : Int32) (p2 : Int32) (p3 : Int32) (r4 : Addr) (r5 : Addr) (ta : Addr) (kk : ClassId) (nn : Int32) (vs : List Value) (xx : Int32) (cst : Int32) (fv : Value) (h0 : Heap) (n0 : Nat) (Z0 : n0 ≤ h0.size) (Ey : Exa Z h0 r0 "java/lang/String") (Fcy : Fld Z h0 r0 "java/lang/String" "coder" "B" (.int (0 : Int32))) (Fvy : Fld Z h0 r0 "java/lang/String" "value" "[B" (.ref ta)) (V0 : Arv Z h0 ta kk .byte nn vs (.int (0 : Int32))) (O0 : Old Z n0 h0) (hlt : p1 < p2) (hlo : ¬ (p1 < (0 : Int32))) (hhi : p1 < nn) (g0 : vs.getD (p1).toNatClampNeg (.int (0 : Int32)) = .int xx) (hres : nar .char (fchL xx) = (47 : Int32)) (h3 : ¬ (p1 < p3)) (h4 : p1 = p3) (SS : Sts Z cst fv) :
  MetFree l (⟨"com/example/fides/fides/RecordIdToStringPinLaw", "at", "(Ljava/lang/String;III[C[C)Z"⟩ : MethodName) (head1 (Jvm.Cond.code (⟨"com/example/fides/fides/RecordIdToStringPinLaw", "at", "(Ljava/lang/String;III[C[C)Z"⟩ : MethodName) method_3_code 7 (some .boolean) :: ws) ({ frames := 4, cells := 0, slots := 0, locals := 53 } : Room)) (fun a U => a = #[(.ref r0), (.int p1), (.int p2), (.int p3), (.ref r4), (.ref r5)] ∧ Z.Warmed39 U.vm ∧ U.heap = h0) (fun _ _ _ _ _ => True) (fun _ U o U' => ∃ v L, o = .returned v ∧ QAt3 Z r0 p1 p2 p3 r4 r5 ta kk nn vs xx cst fv h0 n0 v U'.heap L ∧ FrameEnd U o U' L ({ frames := 4, cells := 0, slots := 0, locals := 53 } : Room).cells ({ frames := 4, cells := 0, slots := 0, locals := 53 } : Room).slots) := by
 refine MetFree.of_bodySF (plainFor_of_name pnc_com_example_fides_fides_RecordIdToStringPinLaw) hisR ?_
 intro p e s m args below meth c s₁ Bd hml0 hP hK
 obtain ⟨rfl, hZ, hh⟩ := hP
 have hx := Bd.exec
 have hby := Bd.bytes
 have hml : c.maxLocals = 7 := hml0
 have hown : s.vm.findClass "com/example/fides/fides/RecordIdToStringPinLaw" = some m.cls := findClass_of_methodNamed Bd.named
 have hnm := (name_of_methodNamed Bd.named Bd.method).1
 have X0 : Stand p l e ({ frames := 4, cells := 0, slots := 0, locals := 53 } : Room) s m #[(.ref r0), (.int p1), (.int p2), (.int p3), (.ref r4), (.ref r5)] below meth c s₁ [] 0 0 := Stand.of_body Bd
 have e0 : s₁.heap = h0 := by rw [← hh, Bd.state]; rfl
 have N0 := Fr.nil n0
 have kp0 : Keep h0 h0 [] := Keep.refl _ _
 have G0 : ∀ t, Steps p.tables e below (s₁.setTop (mkF m 0 #[rv r0, iv p1, iv p2, iv p3, rv r4, rv r5, .unset] [])) t → Steps p.tables e below (s₁.setTop (entryFrame m #[(.ref r0), (.int p1), (.int p2), (.int p3), (.ref r4), (.ref r5)] 7)) t := fun t k => castTop (ef_rmAt3 m r0 p1 p2 p3 r4 r5) k
 have G1 : ∀ t, Steps p.tables e below (s₁.setTop (mkF m 2 #[rv r0, iv p1, iv p2, iv p3, rv r4, rv r5, .unset] [(.int p2), (.int p1)])) t → Steps p.tables e below (s₁.setTop (entryFrame m #[(.ref r0), (.int p1), (.int p2), (.int p3), (.ref r4), (.ref r5)] 7)) t := by
  intro t kt
  refine G0 _ ?_
  refine XS.iloadN X0.here hx rfl (hb hby d33_0) rfl ?_
  refine XS.iloadN X0.here hx rfl (hb hby d33_1) rfl ?_
  exact kt
 have hc2_2 : p1 < p2 := hlt
 have G3 : ∀ t, Steps p.tables e below (s₁.setTop (mkF m 9 #[rv r0, iv p1, iv p2, iv p3, rv r4, rv r5, .unset] [(.int p3), (.int p1)])) t → Steps p.tables e below (s₁.setTop (entryFrame m #[(.ref r0), (.int p1), (.int p2), (.int p3), (.ref r4), (.ref r5)] 7)) t := by
  intro t kt
  refine G1 _ ?_
  refine XS.icmpYes X0.here hx rfl (pc0 := 2) (pc' := 7) rfl (hb hby d33_2) rfl (tlt hc2_2).1 (by decide) (by decide) ?_
  refine XS.iloadN X0.here hx rfl (hb hby d33_7) rfl ?_
  refine XS.iloadN X0.here hx rfl (hb hby d33_8) rfl ?_
  exact kt
 have hc9_4 : ¬ (p1 < p3) := h3
 have G5 : ∀ t, Steps p.tables e below (s₁.setTop (mkF m 23 #[rv r0, iv p1, iv p2, iv p3, rv r4, rv r5, .unset] [(.int p3), (.int p1)])) t → Steps p.tables e below (s₁.setTop (entryFrame m #[(.ref r0), (.int p1), (.int p2), (.int p3), (.ref r4), (.ref r5)] 7)) t := by
  intro t kt
  refine G3 _ ?_
  refine XS.icmpYes X0.here hx rfl (pc0 := 9) (pc' := 21) rfl (hb hby d33_9) rfl (flt hc9_4).2.1 (by decide) (by decide) ?_
  refine XS.iloadN X0.here hx rfl (hb hby d33_21) rfl ?_
  refine XS.iloadN X0.here hx rfl (hb hby d33_22) rfl ?_
  exact kt
 have hc23_6 : p1 = p3 := h4
 obtain ⟨cq7, kq7, q7a, q7b, q7c⟩ := isOf hZ e0 Ey
 obtain ⟨_, _, ⟨T7, L7, k7, n7⟩, -, X7, ⟨Lc7, hQ7, l7, y7, z7⟩, st7⟩ := X0.virtualBack hx (y := (⟨"java/lang/String", "charAt", "(I)C"⟩ : MethodName)) (z := (⟨"java/lang/String", "charAt", "(I)C"⟩ : MethodName)) hown (mvT hZ (hq hw 181 rfl)) (mvT hZ (hq hw 182 rfl)) (notFace_of_selects (args := #[]) (mvT hZ (hq hw 184 rfl))) (mvT hZ (hq hw 184 rfl)) (mvT hZ (hq hw 183 rfl)) (by decide) (backOf (W := 0) (rmChL l Z a0 hw [] r0 p1 ta kk nn vs xx (47 : Int32) cst fv h0 n0 Z0 Ey Fcy Fvy V0 O0 hlo hhi g0 hres SS) hZ (hq hw 185 rfl) (hq hw 3 rfl) (by decide) (by decide)) q7a q7c (g := (mkF m 45 #[rv r0, iv p1, iv p2, iv p3, rv r4, rv r5, iv 47] [(.int p1), (.ref r0)])) rfl (by rw [hml]; rfl) (Steps.refl _) (argsL := [(.int p1)]) (rest := []) (lenOf pd_24 rfl) rfl (by show 2 * 0 + _ ≤ _; exact Nat.le_of_eq rfl) (hb hby d33_45) (fun _ _ => ⟨rfl, e0, (by decide : 0 + 0 ≤ _), (by decide : 0 + 0 ≤ _)⟩)
 dsimp only [Pt.U, Pt.locs, Pt.cells, Pt.slots] at X7 l7 y7 z7 st7 hQ7
 subst l7 y7 z7
 obtain ⟨rfl, N7q, eh7⟩ := hQ7
 have N7 := Fr.app N0 N7q
 have G8 : ∀ t, Steps p.tables e below (T7.setTop (mkF m 50 #[rv r0, iv p1, iv p2, iv p3, rv r4, rv r5, iv 47] [(.int (47 : Int32)), (.int (47 : Int32))])) t → Steps p.tables e below (s₁.setTop (entryFrame m #[(.ref r0), (.int p1), (.int p2), (.int p3), (.ref r4), (.ref r5)] 7)) t := by
  intro t kt
  refine G5 _ ?_
  refine XS.icmpNo X0.here hx rfl (hb hby d33_23) rfl (teq hc23_6).2 ?_
  refine XS.bipush X0.here hx rfl (hb hby d33_26) ?_
  refine XS.istore X0.here hx rfl (hb hby d33_28) rfl (l' := #[rv r0, iv p1, iv p2, iv p3, rv r4, rv r5, iv 47]) rfl ?_
  refine XS.goto X0.here hx rfl (pc0 := 30) (pc' := 43) rfl (hb hby d33_30) (by decide) (by decide) ?_
  refine XS.aloadN X0.here hx rfl (hb hby d33_43) rfl rfl ?_
  refine XS.iloadN X0.here hx rfl (hb hby d33_44) rfl ?_
  refine st7.trans ?_
  refine XS.iload X7.here hx rfl (hb hby d33_48) rfl ?_
  exact kt
 obtain ⟨fs, hr, hrun, hended, hW, hsame⟩ := X7.leave (v := some (.int (1 : Int32))) (fun h => by rw [Bd.returns] at h; cases h)
 refine ⟨_, _, G8 _ ?_, hrun, hended, _, _, rfl, ?_, ⟨_, rfl⟩, hW, hsame.mono (by decide) (by decide)⟩
 ·skip
  refine XS.icmpNo X7.here hx rfl (hb hby d33_50) rfl (teq (by decide)).2 ?_
  refine XS.iconst X7.here hx rfl (hb hby d33_53) ?_
  refine XS.goto X7.here hx rfl (pc0 := 54) (pc' := 58) rfl (hb hby d33_54) (by decide) (by decide) ?_
  exact retN X7 hx (t := .boolean) Bd.returns (by simp) (hb hby d33_58) hr
 ·show QAt3 Z r0 p1 p2 p3 r4 r5 ta kk nn vs xx cst fv h0 n0 _ T7.heap _
  rw [eh7]
  exact ⟨rfl, N7, rfl⟩
def own_AtP (p1 p2 p3 nn : Int32) (vs : List Value) (nr4 : Int32) (vr4 : List Value) (nr5 : Int32) (vr5 : List Value) : Prop := ¬ (p1 < p2) ∨ (∃ xx cc : Int32, p1 < p2 ∧ ¬ (p1 < (0 : Int32)) ∧ p1 < nn ∧ vs.getD (p1).toNatClampNeg (.int (0 : Int32)) = .int xx ∧ nar .char (fchL xx) = cc ∧ (¬ p1 < 0 ∧ p1 < nr4) ∧ vr4.getD (p1).toNatClampNeg (.int (0 : Int32)) = .int cc ∧ p1 < p3) ∨ (∃ xx cc : Int32, p1 < p2 ∧ ¬ (p1 < (0 : Int32)) ∧ p1 < nn ∧ vs.getD (p1).toNatClampNeg (.int (0 : Int32)) = .int xx ∧ nar .char (fchL xx) = cc ∧ (¬ ((p1 - p3) - (1 : Int32)) < 0 ∧ ((p1 - p3) - (1 : Int32)) < nr5) ∧ vr5.getD (((p1 - p3) - (1 : Int32))).toNatClampNeg (.int (0 : Int32)) = .int cc ∧ ¬ (p1 < p3) ∧ ¬ (p1 = p3)) ∨ (∃ xx : Int32, p1 < p2 ∧ ¬ (p1 < (0 : Int32)) ∧ p1 < nn ∧ vs.getD (p1).toNatClampNeg (.int (0 : Int32)) = .int xx ∧ nar .char (fchL xx) = (47 : Int32) ∧ ¬ (p1 < p3) ∧ p1 = p3)
theorem own_atD {p1 p2 p3 nn : Int32} {vs : List Value} {nr4 : Int32} {vr4 : List Value} {nr5 : Int32} {vr5 : List Value} (h : ¬ (p1 < p2)) : own_AtP p1 p2 p3 nn vs nr4 vr4 nr5 vr5 := Or.inl h
theorem own_atT {p1 p2 p3 nn : Int32} {vs : List Value} {nr4 : Int32} {vr4 : List Value} {nr5 : Int32} {vr5 : List Value} {xx cc : Int32} (hlt : p1 < p2) (hlo : ¬ (p1 < (0 : Int32))) (hhi : p1 < nn) (g0 : vs.getD (p1).toNatClampNeg (.int (0 : Int32)) = .int xx) (hres : nar .char (fchL xx) = cc) (ia : ¬ p1 < 0 ∧ p1 < nr4) (ga : vr4.getD (p1).toNatClampNeg (.int (0 : Int32)) = .int cc) (h3 : p1 < p3) : own_AtP p1 p2 p3 nn vs nr4 vr4 nr5 vr5 := Or.inr (Or.inl ⟨xx, cc, hlt, hlo, hhi, g0, hres, ia, ga, h3⟩)
theorem own_atK {p1 p2 p3 nn : Int32} {vs : List Value} {nr4 : Int32} {vr4 : List Value} {nr5 : Int32} {vr5 : List Value} {xx cc : Int32} (hlt : p1 < p2) (hlo : ¬ (p1 < (0 : Int32))) (hhi : p1 < nn) (g0 : vs.getD (p1).toNatClampNeg (.int (0 : Int32)) = .int xx) (hres : nar .char (fchL xx) = cc) (ia : ¬ ((p1 - p3) - (1 : Int32)) < 0 ∧ ((p1 - p3) - (1 : Int32)) < nr5) (ga : vr5.getD (((p1 - p3) - (1 : Int32))).toNatClampNeg (.int (0 : Int32)) = .int cc) (h3 : ¬ (p1 < p3)) (h4 : ¬ (p1 = p3)) : own_AtP p1 p2 p3 nn vs nr4 vr4 nr5 vr5 := Or.inr (Or.inr (Or.inl ⟨xx, cc, hlt, hlo, hhi, g0, hres, ia, ga, h3, h4⟩))
theorem own_atM {p1 p2 p3 nn : Int32} {vs : List Value} {nr4 : Int32} {vr4 : List Value} {nr5 : Int32} {vr5 : List Value} {xx : Int32} (hlt : p1 < p2) (hlo : ¬ (p1 < (0 : Int32))) (hhi : p1 < nn) (g0 : vs.getD (p1).toNatClampNeg (.int (0 : Int32)) = .int xx) (hres : nar .char (fchL xx) = (47 : Int32)) (h3 : ¬ (p1 < p3)) (h4 : p1 = p3) : own_AtP p1 p2 p3 nn vs nr4 vr4 nr5 vr5 := Or.inr (Or.inr (Or.inr ⟨xx, hlt, hlo, hhi, g0, hres, h3, h4⟩))
theorem rmAt (l : Launch) (Z : State) (a0 : Array Value) (hw : ∀ d ∈ tables_1, d.before a0 Z = true) (ws : List Jvm.Cond) (r0 : Addr) (p1 p2 p3 : Int32) (r4 r5 : Addr) (ta : Addr) (kk : ClassId) (nn : Int32) (vs : List Value) (kr4 : ClassId) (nr4 : Int32) (vr4 : List Value) (kr5 : ClassId) (nr5 : Int32) (vr5 : List Value) (cst : Int32) (fv : Value) (h0 : Heap) (n0 : Nat) (Z0 : n0 ≤ h0.size) (Ey : Exa Z h0 r0 "java/lang/String") (Fcy : Fld Z h0 r0 "java/lang/String" "coder" "B" (.int (0 : Int32))) (Fvy : Fld Z h0 r0 "java/lang/String" "value" "[B" (.ref ta)) (V0 : Arv Z h0 ta kk .byte nn vs (.int (0 : Int32))) (Vr4 : Arv Z h0 r4 kr4 .char nr4 vr4 (.int (0 : Int32))) (Vr5 : Arv Z h0 r5 kr5 .char nr5 vr5 (.int (0 : Int32))) (O0 : Old Z n0 h0) (hat : own_AtP p1 p2 p3 nn vs nr4 vr4 nr5 vr5) (SS : Sts Z cst fv) :
  MetFree l (⟨"com/example/fides/fides/RecordIdToStringPinLaw", "at", "(Ljava/lang/String;III[C[C)Z"⟩ : MethodName) (head1 (Jvm.Cond.code (⟨"com/example/fides/fides/RecordIdToStringPinLaw", "at", "(Ljava/lang/String;III[C[C)Z"⟩ : MethodName) method_3_code 7 (some .boolean) :: ws) ({ frames := 4, cells := 0, slots := 0, locals := 53 } : Room)) (fun a U => a = #[(.ref r0), (.int p1), (.int p2), (.int p3), (.ref r4), (.ref r5)] ∧ Z.Warmed39 U.vm ∧ U.heap = h0) (fun _ _ _ _ _ => True) (fun _ U o U' => ∃ v L, o = .returned v ∧ QAt0 Z r0 p1 p2 p3 r4 r5 h0 n0 v U'.heap L ∧ FrameEnd U o U' L ({ frames := 4, cells := 0, slots := 0, locals := 53 } : Room).cells ({ frames := 4, cells := 0, slots := 0, locals := 53 } : Room).slots) := by
  rcases hat with h | ⟨xx, cc, hlt, hlo, hhi, g0, hres, ia, ga, h3⟩ | ⟨xx, cc, hlt, hlo, hhi, g0, hres, ia, ga, h3, h4⟩ | ⟨xx, hlt, hlo, hhi, g0, hres, h3, h4⟩
  · exact rmAt0 l Z a0 hw ws r0 p1 p2 p3 r4 r5 h0 n0 Z0 h
  · exact rmAt1 l Z a0 hw ws r0 p1 p2 p3 r4 r5 ta kk nn vs xx cc kr4 nr4 vr4 cst fv h0 n0 Z0 Ey Fcy Fvy V0 Vr4 O0 hlt hlo hhi g0 hres ia ga h3 SS
  · exact rmAt2 l Z a0 hw ws r0 p1 p2 p3 r4 r5 ta kk nn vs xx cc kr5 nr5 vr5 cst fv h0 n0 Z0 Ey Fcy Fvy V0 Vr5 O0 hlt hlo hhi g0 hres ia ga h3 h4 SS
  · exact rmAt3 l Z a0 hw ws r0 p1 p2 p3 r4 r5 ta kk nn vs xx cst fv h0 n0 Z0 Ey Fcy Fvy V0 O0 hlt hlo hhi g0 hres h3 h4 SS
theorem pd_25 : parseMethodDescriptor "(Ljava/lang/String;III[C[C)Z" = some ⟨[(.object "java/lang/String"), .int, .int, .int, (.array .char), (.array .char)], some .boolean⟩ := by decide +kernel
set_option maxRecDepth 65536 in
set_option maxHeartbeats 40000000 in
theorem own_tail {p : Program} {l : Launch} {e : Env} {s : State} {m : MethodId} {args : Array Value} {below : List Frame} {meth : Method} {c : Code} {T0 : State} {locs : List Loc} {cells slots : Nat} {Z : State} {a0 : Array Value} {h0 : Heap} {n0 : Nat} (z0 z1 z2 z3 z4 z6 z7 z8 z9 z12 z13 : Slot) (lt_ nv : Int32) (r4 r5 so : Addr) (ta : Addr) (kk : ClassId) (nn : Int32) (vs : List Value) (kr4 : ClassId) (nr4 : Int32) (vr4 : List Value) (kr5 : ClassId) (nr5 : Int32) (vr5 : List Value) (cst : Int32) (fv : Value)
  (X0 : Stand p l e room_1 s m args below meth c T0 locs cells slots) (hx : p.tables.exec = Jvm.exec) (hZ : Z.Warmed39 s.vm) (hw : ∀ d ∈ tables_1, d.before a0 Z = true) (hby : c.code = code) (hml : c.maxLocals = 16) (hown : s.vm.findClass "com/example/fides/fides/RecordIdToStringPinLaw" = some m.cls) (e0 : T0.heap = h0) (N0 : Fr n0 locs) (Z0 : n0 ≤ h0.size) (Ey : Exa Z h0 so "java/lang/String") (Fcy : Fld Z h0 so "java/lang/String" "coder" "B" (.int (0 : Int32))) (Fvy : Fld Z h0 so "java/lang/String" "value" "[B" (.ref ta)) (V0 : Arv Z h0 ta kk .byte nn vs (.int (0 : Int32))) (Vr4 : Arv Z h0 r4 kr4 .char nr4 vr4 (.int (0 : Int32))) (Vr5 : Arv Z h0 r5 kr5 .char nr5 vr5 (.int (0 : Int32))) (O0 : Old Z n0 h0) (hce : cells ≤ room_1.cells) (hsl : slots ≤ room_1.slots) (hnn : nn = nv) (hat0 : own_AtP (0 : Int32) nv lt_ nn vs nr4 vr4 nr5 vr5) (hat1 : own_AtP (1 : Int32) nv lt_ nn vs nr4 vr4 nr5 vr5) (hat2 : own_AtP (2 : Int32) nv lt_ nn vs nr4 vr4 nr5 vr5) (hat3 : own_AtP (3 : Int32) nv lt_ nn vs nr4 vr4 nr5 vr5) (hat4 : own_AtP (4 : Int32) nv lt_ nn vs nr4 vr4 nr5 vr5) (hat5 : own_AtP (5 : Int32) nv lt_ nn vs nr4 vr4 nr5 vr5) (hat6 : own_AtP (6 : Int32) nv lt_ nn vs nr4 vr4 nr5 vr5) (SS : Sts Z cst fv) :
  ∃ (T' : State) (L' : List Loc), Stand p l e room_1 s m args below meth c T' L' cells slots ∧ T'.heap = h0 ∧ Fr n0 L' ∧ ∀ t, Steps p.tables e below (T'.setTop (mkF m 461 #[z0, z1, z2, z3, z4, iv lt_, z6, z7, z8, z9, rv r4, rv r5, z12, z13, rv so, iv nv] [])) t → Steps p.tables e below (T0.setTop (mkF m 324 #[z0, z1, z2, z3, z4, iv lt_, z6, z7, z8, z9, rv r4, rv r5, z12, z13, rv so, iv nv] [])) t := by
 have kp0 : Keep h0 h0 [] := Keep.refl _ _
 have G0 : ∀ t, Steps p.tables e below (T0.setTop (mkF m 324 #[z0, z1, z2, z3, z4, iv lt_, z6, z7, z8, z9, rv r4, rv r5, z12, z13, rv so, iv nv] [])) t → Steps p.tables e below (T0.setTop (mkF m 324 #[z0, z1, z2, z3, z4, iv lt_, z6, z7, z8, z9, rv r4, rv r5, z12, z13, rv so, iv nv] [])) t := fun t k => k
 obtain ⟨cq1, kq1, q1a, q1b, q1c⟩ := isOf hZ e0 Ey
 obtain ⟨_, _, ⟨T1, L1, k1, n1⟩, -, X1, ⟨Lc1, hQ1, l1, y1, z1⟩, st1⟩ := X0.virtualBack hx (y := (⟨"java/lang/String", "length", "()I"⟩ : MethodName)) (z := (⟨"java/lang/String", "length", "()I"⟩ : MethodName)) hown (mvT hZ (hq hw 176 rfl)) (mvT hZ (hq hw 94 rfl)) (notFace_of_selects (args := #[]) (mvT hZ (hq hw 96 rfl))) (mvT hZ (hq hw 96 rfl)) (mvT hZ (hq hw 95 rfl)) (by decide) (backOf (W := 0) (rm16 l Z a0 hw [] so (0 : Int32) ta kk nn vs nn cst fv h0 n0 Z0 Ey Fcy Fvy V0 O0 (own_len _) SS) hZ (hq hw 97 rfl) (hq hw 3 rfl) (by decide) (by decide)) q1a q1c (g := (mkF m 331 #[z0, z1, z2, z3, z4, iv lt_, z6, z7, z8, z9, rv r4, rv r5, z12, z13, rv so, iv nv] [(.ref so)])) rfl (by rw [hml]; rfl) (Steps.refl _) (argsL := []) (rest := []) (lenOf pd_14 rfl) rfl (by show 2 * 0 + _ ≤ _; exact Nat.le_of_eq rfl) (hb hby at_331) (fun _ _ => ⟨rfl, e0, hce, hsl⟩)
 dsimp only [Pt.U, Pt.locs, Pt.cells, Pt.slots] at X1 l1 y1 z1 st1 hQ1
 subst l1 y1 z1
 obtain ⟨rfl, N1q, eh1⟩ := hQ1
 have N1 := Fr.app N0 N1q
 have G2 : ∀ t, Steps p.tables e below (T1.setTop (mkF m 336 #[z0, z1, z2, z3, z4, iv lt_, z6, z7, z8, z9, rv r4, rv r5, z12, z13, rv so, iv nv] [(.int nv), (.int nn)])) t → Steps p.tables e below (T0.setTop (mkF m 324 #[z0, z1, z2, z3, z4, iv lt_, z6, z7, z8, z9, rv r4, rv r5, z12, z13, rv so, iv nv] [])) t := by
  intro t kt
  refine G0 _ ?_
  refine XS.aload X0.here hx rfl (hb hby at_324) rfl rfl ?_
  refine XS.ifnullNo X0.here hx rfl (hb hby at_326) rfl ?_
  refine XS.aload X0.here hx rfl (hb hby at_329) rfl rfl ?_
  refine st1.trans ?_
  refine XS.iload X1.here hx rfl (hb hby at_334) rfl ?_
  exact kt
 have hc336_3 : nn = nv := hnn
 obtain ⟨_, _, ⟨T4, L4, k4, n4⟩, -, X4, ⟨Lc4, hQ4, l4, y4, z4⟩, st4⟩ := Jvm.LawKit.callS X1 hx (y := (⟨"com/example/fides/fides/RecordIdToStringPinLaw", "at", "(Ljava/lang/String;III[C[C)Z"⟩ : MethodName)) hown (mvT hZ (hq hw 177 rfl)) (mvT hZ (hq hw 178 rfl)) (mvT hZ (hq hw 179 rfl)) (mvT hZ (hq hw 180 rfl)) (by decide) (backOf (W := 0) (rmAt l Z a0 hw [] so (0 : Int32) nv lt_ r4 r5 ta kk nn vs kr4 nr4 vr4 kr5 nr5 vr5 cst fv h0 n0 Z0 Ey Fcy Fvy V0 Vr4 Vr5 O0 hat0 SS) hZ (hq hw 180 rfl) (hq hw 179 rfl) (by decide) (by decide)) (g := (mkF m 352 #[z0, z1, z2, z3, z4, iv lt_, z6, z7, z8, z9, rv r4, rv r5, z12, z13, rv so, iv nv] [(.ref r5), (.ref r4), (.int lt_), (.int nv), (.int (0 : Int32)), (.ref so)])) rfl (by rw [hml]; rfl) (argsL := [(.ref so), (.int (0 : Int32)), (.int nv), (.int lt_), (.ref r4), (.ref r5)]) (rest := []) (lenOf pd_25 rfl) rfl (by show 2 * 0 + _ ≤ _; exact Nat.le_of_eq rfl) (hb hby at_352) (fun _ _ => ⟨rfl, eh1, hce, hsl⟩)
 dsimp only [Pt.U, Pt.locs, Pt.cells, Pt.slots] at X4 l4 y4 z4 st4 hQ4
 subst l4 y4 z4
 obtain ⟨rfl, N4q, eh4⟩ := hQ4
 have N4 := Fr.app N1 N4q
 have G5 : ∀ t, Steps p.tables e below (T4.setTop (mkF m 355 #[z0, z1, z2, z3, z4, iv lt_, z6, z7, z8, z9, rv r4, rv r5, z12, z13, rv so, iv nv] [(.int (1 : Int32))])) t → Steps p.tables e below (T0.setTop (mkF m 324 #[z0, z1, z2, z3, z4, iv lt_, z6, z7, z8, z9, rv r4, rv r5, z12, z13, rv so, iv nv] [])) t := by
  intro t kt
  refine G2 _ ?_
  refine XS.icmpYes X1.here hx rfl (pc0 := 336) (pc' := 341) rfl (hb hby at_336) rfl (teq hc336_3).1 (by decide) (by decide) ?_
  refine XS.aload X1.here hx rfl (hb hby at_341) rfl rfl ?_
  refine XS.iconst X1.here hx rfl (hb hby at_343) ?_
  refine XS.iload X1.here hx rfl (hb hby at_344) rfl ?_
  refine XS.iload X1.here hx rfl (hb hby at_346) rfl ?_
  refine XS.aload X1.here hx rfl (hb hby at_348) rfl rfl ?_
  refine XS.aload X1.here hx rfl (hb hby at_350) rfl rfl ?_
  refine st4 _ ?_
  exact kt
 obtain ⟨_, _, ⟨T6, L6, k6, n6⟩, -, X6, ⟨Lc6, hQ6, l6, y6, z6⟩, st6⟩ := Jvm.LawKit.callS X4 hx (y := (⟨"com/example/fides/fides/RecordIdToStringPinLaw", "at", "(Ljava/lang/String;III[C[C)Z"⟩ : MethodName)) hown (mvT hZ (hq hw 177 rfl)) (mvT hZ (hq hw 178 rfl)) (mvT hZ (hq hw 179 rfl)) (mvT hZ (hq hw 180 rfl)) (by decide) (backOf (W := 0) (rmAt l Z a0 hw [] so (1 : Int32) nv lt_ r4 r5 ta kk nn vs kr4 nr4 vr4 kr5 nr5 vr5 cst fv h0 n0 Z0 Ey Fcy Fvy V0 Vr4 Vr5 O0 hat1 SS) hZ (hq hw 180 rfl) (hq hw 179 rfl) (by decide) (by decide)) (g := (mkF m 369 #[z0, z1, z2, z3, z4, iv lt_, z6, z7, z8, z9, rv r4, rv r5, z12, z13, rv so, iv nv] [(.ref r5), (.ref r4), (.int lt_), (.int nv), (.int (1 : Int32)), (.ref so)])) rfl (by rw [hml]; rfl) (argsL := [(.ref so), (.int (1 : Int32)), (.int nv), (.int lt_), (.ref r4), (.ref r5)]) (rest := []) (lenOf pd_25 rfl) rfl (by show 2 * 0 + _ ≤ _; exact Nat.le_of_eq rfl) (hb hby at_369) (fun _ _ => ⟨rfl, eh4, hce, hsl⟩)
 dsimp only [Pt.U, Pt.locs, Pt.cells, Pt.slots] at X6 l6 y6 z6 st6 hQ6
 subst l6 y6 z6
 obtain ⟨rfl, N6q, eh6⟩ := hQ6
 have N6 := Fr.app N4 N6q
 have G7 : ∀ t, Steps p.tables e below (T6.setTop (mkF m 372 #[z0, z1, z2, z3, z4, iv lt_, z6, z7, z8, z9, rv r4, rv r5, z12, z13, rv so, iv nv] [(.int (1 : Int32))])) t → Steps p.tables e below (T0.setTop (mkF m 324 #[z0, z1, z2, z3, z4, iv lt_, z6, z7, z8, z9, rv r4, rv r5, z12, z13, rv so, iv nv] [])) t := by
  intro t kt
  refine G5 _ ?_
  refine XS.ifNo X4.here hx rfl (hb hby at_355) rfl ((if0 _ _).trans (feq (by decide)).1) ?_
  refine XS.aload X4.here hx rfl (hb hby at_358) rfl rfl ?_
  refine XS.iconst X4.here hx rfl (hb hby at_360) ?_
  refine XS.iload X4.here hx rfl (hb hby at_361) rfl ?_
  refine XS.iload X4.here hx rfl (hb hby at_363) rfl ?_
  refine XS.aload X4.here hx rfl (hb hby at_365) rfl rfl ?_
  refine XS.aload X4.here hx rfl (hb hby at_367) rfl rfl ?_
  refine st6 _ ?_
  exact kt
 obtain ⟨_, _, ⟨T8, L8, k8, n8⟩, -, X8, ⟨Lc8, hQ8, l8, y8, z8⟩, st8⟩ := Jvm.LawKit.callS X6 hx (y := (⟨"com/example/fides/fides/RecordIdToStringPinLaw", "at", "(Ljava/lang/String;III[C[C)Z"⟩ : MethodName)) hown (mvT hZ (hq hw 177 rfl)) (mvT hZ (hq hw 178 rfl)) (mvT hZ (hq hw 179 rfl)) (mvT hZ (hq hw 180 rfl)) (by decide) (backOf (W := 0) (rmAt l Z a0 hw [] so (2 : Int32) nv lt_ r4 r5 ta kk nn vs kr4 nr4 vr4 kr5 nr5 vr5 cst fv h0 n0 Z0 Ey Fcy Fvy V0 Vr4 Vr5 O0 hat2 SS) hZ (hq hw 180 rfl) (hq hw 179 rfl) (by decide) (by decide)) (g := (mkF m 386 #[z0, z1, z2, z3, z4, iv lt_, z6, z7, z8, z9, rv r4, rv r5, z12, z13, rv so, iv nv] [(.ref r5), (.ref r4), (.int lt_), (.int nv), (.int (2 : Int32)), (.ref so)])) rfl (by rw [hml]; rfl) (argsL := [(.ref so), (.int (2 : Int32)), (.int nv), (.int lt_), (.ref r4), (.ref r5)]) (rest := []) (lenOf pd_25 rfl) rfl (by show 2 * 0 + _ ≤ _; exact Nat.le_of_eq rfl) (hb hby at_386) (fun _ _ => ⟨rfl, eh6, hce, hsl⟩)
 dsimp only [Pt.U, Pt.locs, Pt.cells, Pt.slots] at X8 l8 y8 z8 st8 hQ8
 subst l8 y8 z8
 obtain ⟨rfl, N8q, eh8⟩ := hQ8
 have N8 := Fr.app N6 N8q
 have G9 : ∀ t, Steps p.tables e below (T8.setTop (mkF m 389 #[z0, z1, z2, z3, z4, iv lt_, z6, z7, z8, z9, rv r4, rv r5, z12, z13, rv so, iv nv] [(.int (1 : Int32))])) t → Steps p.tables e below (T0.setTop (mkF m 324 #[z0, z1, z2, z3, z4, iv lt_, z6, z7, z8, z9, rv r4, rv r5, z12, z13, rv so, iv nv] [])) t := by
  intro t kt
  refine G7 _ ?_
  refine XS.ifNo X6.here hx rfl (hb hby at_372) rfl ((if0 _ _).trans (feq (by decide)).1) ?_
  show Steps p.tables e below (T6.setTop (mkF m 375 #[z0, z1, z2, z3, z4, iv lt_, z6, z7, z8, z9, rv r4, rv r5, z12, z13, rv so, iv nv] [])) _
  refine XS.aload X6.here hx rfl (hb hby at_375) rfl rfl ?_
  refine XS.iconst X6.here hx rfl (hb hby at_377) ?_
  refine XS.iload X6.here hx rfl (hb hby at_378) rfl ?_
  refine XS.iload X6.here hx rfl (hb hby at_380) rfl ?_
  refine XS.aload X6.here hx rfl (hb hby at_382) rfl rfl ?_
  refine XS.aload X6.here hx rfl (hb hby at_384) rfl rfl ?_
  refine st8 _ ?_
  exact kt
 obtain ⟨_, _, ⟨T10, L10, k10, n10⟩, -, X10, ⟨Lc10, hQ10, l10, y10, z10⟩, st10⟩ := Jvm.LawKit.callS X8 hx (y := (⟨"com/example/fides/fides/RecordIdToStringPinLaw", "at", "(Ljava/lang/String;III[C[C)Z"⟩ : MethodName)) hown (mvT hZ (hq hw 177 rfl)) (mvT hZ (hq hw 178 rfl)) (mvT hZ (hq hw 179 rfl)) (mvT hZ (hq hw 180 rfl)) (by decide) (backOf (W := 0) (rmAt l Z a0 hw [] so (3 : Int32) nv lt_ r4 r5 ta kk nn vs kr4 nr4 vr4 kr5 nr5 vr5 cst fv h0 n0 Z0 Ey Fcy Fvy V0 Vr4 Vr5 O0 hat3 SS) hZ (hq hw 180 rfl) (hq hw 179 rfl) (by decide) (by decide)) (g := (mkF m 403 #[z0, z1, z2, z3, z4, iv lt_, z6, z7, z8, z9, rv r4, rv r5, z12, z13, rv so, iv nv] [(.ref r5), (.ref r4), (.int lt_), (.int nv), (.int (3 : Int32)), (.ref so)])) rfl (by rw [hml]; rfl) (argsL := [(.ref so), (.int (3 : Int32)), (.int nv), (.int lt_), (.ref r4), (.ref r5)]) (rest := []) (lenOf pd_25 rfl) rfl (by show 2 * 0 + _ ≤ _; exact Nat.le_of_eq rfl) (hb hby at_403) (fun _ _ => ⟨rfl, eh8, hce, hsl⟩)
 dsimp only [Pt.U, Pt.locs, Pt.cells, Pt.slots] at X10 l10 y10 z10 st10 hQ10
 subst l10 y10 z10
 obtain ⟨rfl, N10q, eh10⟩ := hQ10
 have N10 := Fr.app N8 N10q
 have G11 : ∀ t, Steps p.tables e below (T10.setTop (mkF m 406 #[z0, z1, z2, z3, z4, iv lt_, z6, z7, z8, z9, rv r4, rv r5, z12, z13, rv so, iv nv] [(.int (1 : Int32))])) t → Steps p.tables e below (T0.setTop (mkF m 324 #[z0, z1, z2, z3, z4, iv lt_, z6, z7, z8, z9, rv r4, rv r5, z12, z13, rv so, iv nv] [])) t := by
  intro t kt
  refine G9 _ ?_
  refine XS.ifNo X8.here hx rfl (hb hby at_389) rfl ((if0 _ _).trans (feq (by decide)).1) ?_
  refine XS.aload X8.here hx rfl (hb hby at_392) rfl rfl ?_
  refine XS.iconst X8.here hx rfl (hb hby at_394) ?_
  refine XS.iload X8.here hx rfl (hb hby at_395) rfl ?_
  refine XS.iload X8.here hx rfl (hb hby at_397) rfl ?_
  refine XS.aload X8.here hx rfl (hb hby at_399) rfl rfl ?_
  refine XS.aload X8.here hx rfl (hb hby at_401) rfl rfl ?_
  refine st10 _ ?_
  exact kt
 obtain ⟨_, _, ⟨T12, L12, k12, n12⟩, -, X12, ⟨Lc12, hQ12, l12, y12, z12⟩, st12⟩ := Jvm.LawKit.callS X10 hx (y := (⟨"com/example/fides/fides/RecordIdToStringPinLaw", "at", "(Ljava/lang/String;III[C[C)Z"⟩ : MethodName)) hown (mvT hZ (hq hw 177 rfl)) (mvT hZ (hq hw 178 rfl)) (mvT hZ (hq hw 179 rfl)) (mvT hZ (hq hw 180 rfl)) (by decide) (backOf (W := 0) (rmAt l Z a0 hw [] so (4 : Int32) nv lt_ r4 r5 ta kk nn vs kr4 nr4 vr4 kr5 nr5 vr5 cst fv h0 n0 Z0 Ey Fcy Fvy V0 Vr4 Vr5 O0 hat4 SS) hZ (hq hw 180 rfl) (hq hw 179 rfl) (by decide) (by decide)) (g := (mkF m 420 #[z0, z1, z2, z3, z4, iv lt_, z6, z7, z8, z9, rv r4, rv r5, z12, z13, rv so, iv nv] [(.ref r5), (.ref r4), (.int lt_), (.int nv), (.int (4 : Int32)), (.ref so)])) rfl (by rw [hml]; rfl) (argsL := [(.ref so), (.int (4 : Int32)), (.int nv), (.int lt_), (.ref r4), (.ref r5)]) (rest := []) (lenOf pd_25 rfl) rfl (by show 2 * 0 + _ ≤ _; exact Nat.le_of_eq rfl) (hb hby at_420) (fun _ _ => ⟨rfl, eh10, hce, hsl⟩)
 dsimp only [Pt.U, Pt.locs, Pt.cells, Pt.slots] at X12 l12 y12 z12 st12 hQ12
 subst l12 y12 z12
 obtain ⟨rfl, N12q, eh12⟩ := hQ12
 have N12 := Fr.app N10 N12q
 have G13 : ∀ t, Steps p.tables e below (T12.setTop (mkF m 423 #[z0, z1, z2, z3, z4, iv lt_, z6, z7, z8, z9, rv r4, rv r5, z12, z13, rv so, iv nv] [(.int (1 : Int32))])) t → Steps p.tables e below (T0.setTop (mkF m 324 #[z0, z1, z2, z3, z4, iv lt_, z6, z7, z8, z9, rv r4, rv r5, z12, z13, rv so, iv nv] [])) t := by
  intro t kt
  refine G11 _ ?_
  refine XS.ifNo X10.here hx rfl (hb hby at_406) rfl ((if0 _ _).trans (feq (by decide)).1) ?_
  refine XS.aload X10.here hx rfl (hb hby at_409) rfl rfl ?_
  refine XS.iconst X10.here hx rfl (hb hby at_411) ?_
  refine XS.iload X10.here hx rfl (hb hby at_412) rfl ?_
  refine XS.iload X10.here hx rfl (hb hby at_414) rfl ?_
  refine XS.aload X10.here hx rfl (hb hby at_416) rfl rfl ?_
  refine XS.aload X10.here hx rfl (hb hby at_418) rfl rfl ?_
  show Steps p.tables e below (T10.setTop (mkF m 420 #[z0, z1, z2, z3, z4, iv lt_, z6, z7, z8, z9, rv r4, rv r5, z12, z13, rv so, iv nv] [(.ref r5), (.ref r4), (.int lt_), (.int nv), (.int (4 : Int32)), (.ref so)])) _
  refine st12 _ ?_
  exact kt
 obtain ⟨_, _, ⟨T14, L14, k14, n14⟩, -, X14, ⟨Lc14, hQ14, l14, y14, z14⟩, st14⟩ := Jvm.LawKit.callS X12 hx (y := (⟨"com/example/fides/fides/RecordIdToStringPinLaw", "at", "(Ljava/lang/String;III[C[C)Z"⟩ : MethodName)) hown (mvT hZ (hq hw 177 rfl)) (mvT hZ (hq hw 178 rfl)) (mvT hZ (hq hw 179 rfl)) (mvT hZ (hq hw 180 rfl)) (by decide) (backOf (W := 0) (rmAt l Z a0 hw [] so (5 : Int32) nv lt_ r4 r5 ta kk nn vs kr4 nr4 vr4 kr5 nr5 vr5 cst fv h0 n0 Z0 Ey Fcy Fvy V0 Vr4 Vr5 O0 hat5 SS) hZ (hq hw 180 rfl) (hq hw 179 rfl) (by decide) (by decide)) (g := (mkF m 437 #[z0, z1, z2, z3, z4, iv lt_, z6, z7, z8, z9, rv r4, rv r5, z12, z13, rv so, iv nv] [(.ref r5), (.ref r4), (.int lt_), (.int nv), (.int (5 : Int32)), (.ref so)])) rfl (by rw [hml]; rfl) (argsL := [(.ref so), (.int (5 : Int32)), (.int nv), (.int lt_), (.ref r4), (.ref r5)]) (rest := []) (lenOf pd_25 rfl) rfl (by show 2 * 0 + _ ≤ _; exact Nat.le_of_eq rfl) (hb hby at_437) (fun _ _ => ⟨rfl, eh12, hce, hsl⟩)
 dsimp only [Pt.U, Pt.locs, Pt.cells, Pt.slots] at X14 l14 y14 z14 st14 hQ14
 subst l14 y14 z14
 obtain ⟨rfl, N14q, eh14⟩ := hQ14
 have N14 := Fr.app N12 N14q
 have G15 : ∀ t, Steps p.tables e below (T14.setTop (mkF m 440 #[z0, z1, z2, z3, z4, iv lt_, z6, z7, z8, z9, rv r4, rv r5, z12, z13, rv so, iv nv] [(.int (1 : Int32))])) t → Steps p.tables e below (T0.setTop (mkF m 324 #[z0, z1, z2, z3, z4, iv lt_, z6, z7, z8, z9, rv r4, rv r5, z12, z13, rv so, iv nv] [])) t := by
  intro t kt
  refine G13 _ ?_
  refine XS.ifNo X12.here hx rfl (hb hby at_423) rfl ((if0 _ _).trans (feq (by decide)).1) ?_
  refine XS.aload X12.here hx rfl (hb hby at_426) rfl rfl ?_
  refine XS.iconst X12.here hx rfl (hb hby at_428) ?_
  refine XS.iload X12.here hx rfl (hb hby at_429) rfl ?_
  refine XS.iload X12.here hx rfl (hb hby at_431) rfl ?_
  refine XS.aload X12.here hx rfl (hb hby at_433) rfl rfl ?_
  refine XS.aload X12.here hx rfl (hb hby at_435) rfl rfl ?_
  refine st14 _ ?_
  exact kt
 obtain ⟨_, _, ⟨T16, L16, k16, n16⟩, -, X16, ⟨Lc16, hQ16, l16, y16, z16⟩, st16⟩ := Jvm.LawKit.callS X14 hx (y := (⟨"com/example/fides/fides/RecordIdToStringPinLaw", "at", "(Ljava/lang/String;III[C[C)Z"⟩ : MethodName)) hown (mvT hZ (hq hw 177 rfl)) (mvT hZ (hq hw 178 rfl)) (mvT hZ (hq hw 179 rfl)) (mvT hZ (hq hw 180 rfl)) (by decide) (backOf (W := 0) (rmAt l Z a0 hw [] so (6 : Int32) nv lt_ r4 r5 ta kk nn vs kr4 nr4 vr4 kr5 nr5 vr5 cst fv h0 n0 Z0 Ey Fcy Fvy V0 Vr4 Vr5 O0 hat6 SS) hZ (hq hw 180 rfl) (hq hw 179 rfl) (by decide) (by decide)) (g := (mkF m 455 #[z0, z1, z2, z3, z4, iv lt_, z6, z7, z8, z9, rv r4, rv r5, z12, z13, rv so, iv nv] [(.ref r5), (.ref r4), (.int lt_), (.int nv), (.int (6 : Int32)), (.ref so)])) rfl (by rw [hml]; rfl) (argsL := [(.ref so), (.int (6 : Int32)), (.int nv), (.int lt_), (.ref r4), (.ref r5)]) (rest := []) (lenOf pd_25 rfl) rfl (by show 2 * 0 + _ ≤ _; exact Nat.le_of_eq rfl) (hb hby at_455) (fun _ _ => ⟨rfl, eh14, hce, hsl⟩)
 dsimp only [Pt.U, Pt.locs, Pt.cells, Pt.slots] at X16 l16 y16 z16 st16 hQ16
 subst l16 y16 z16
 obtain ⟨rfl, N16q, eh16⟩ := hQ16
 have N16 := Fr.app N14 N16q
 have G17 : ∀ t, Steps p.tables e below (T16.setTop (mkF m 458 #[z0, z1, z2, z3, z4, iv lt_, z6, z7, z8, z9, rv r4, rv r5, z12, z13, rv so, iv nv] [(.int (1 : Int32))])) t → Steps p.tables e below (T0.setTop (mkF m 324 #[z0, z1, z2, z3, z4, iv lt_, z6, z7, z8, z9, rv r4, rv r5, z12, z13, rv so, iv nv] [])) t := by
  intro t kt
  refine G15 _ ?_
  refine XS.ifNo X14.here hx rfl (hb hby at_440) rfl ((if0 _ _).trans (feq (by decide)).1) ?_
  refine XS.aload X14.here hx rfl (hb hby at_443) rfl rfl ?_
  refine XS.bipush X14.here hx rfl (hb hby at_445) ?_
  refine XS.iload X14.here hx rfl (hb hby at_447) rfl ?_
  refine XS.iload X14.here hx rfl (hb hby at_449) rfl ?_
  refine XS.aload X14.here hx rfl (hb hby at_451) rfl rfl ?_
  refine XS.aload X14.here hx rfl (hb hby at_453) rfl rfl ?_
  refine st16 _ ?_
  exact kt
 have G18 : ∀ t, Steps p.tables e below (T16.setTop (mkF m 461 #[z0, z1, z2, z3, z4, iv lt_, z6, z7, z8, z9, rv r4, rv r5, z12, z13, rv so, iv nv] [])) t → Steps p.tables e below (T0.setTop (mkF m 324 #[z0, z1, z2, z3, z4, iv lt_, z6, z7, z8, z9, rv r4, rv r5, z12, z13, rv so, iv nv] [])) t := by
  intro t kt
  refine G17 _ ?_
  refine XS.ifNo X16.here hx rfl (hb hby at_458) rfl ((if0 _ _).trans (feq (by decide)).1) ?_
  exact kt
 exact ⟨_, _, X16, eh16, N16, G18⟩
theorem own_m3 (x : Int32) : 0 ≤ (x &&& (3 : Int32)).toInt ∧ (x &&& (3 : Int32)).toInt ≤ 3 := by
  have a := c_mask x 3 2 (by decide) (by decide)
  have p2 : ((2 ^ 2 : Nat) : Int) = 4 := by decide
  rw [p2] at a
  omega
theorem own_at4 {a : Int32} (h : 0 ≤ a.toInt ∧ a.toInt ≤ 3) : a = 0 ∨ a = 1 ∨ a = 2 ∨ a = 3 := by
  have e : a.toInt = 0 ∨ a.toInt = 1 ∨ a.toInt = 2 ∨ a.toInt = 3 := by omega
  rcases e with e | e | e | e
  · exact Or.inl (Int32.toInt_inj.mp e)
  · exact Or.inr (Or.inl (Int32.toInt_inj.mp e))
  · exact Or.inr (Or.inr (Or.inl (Int32.toInt_inj.mp e)))
  · exact Or.inr (Or.inr (Or.inr (Int32.toInt_inj.mp e)))
theorem own_at3 (x : Int32) : (1 : Int32) + (x &&& (3 : Int32)) % (3 : Int32) = 1 ∨ (1 : Int32) + (x &&& (3 : Int32)) % (3 : Int32) = 2 ∨ (1 : Int32) + (x &&& (3 : Int32)) % (3 : Int32) = 3 := by
  rcases own_at4 (own_m3 x) with e | e | e | e <;> rw [e] <;> decide
theorem own_c255 (x : Int32) : (0 ≤ ((x &&& (255 : Int32)).toUInt32.toUInt16.toUInt32.toInt32).toInt ∧ ((x &&& (255 : Int32)).toUInt32.toUInt16.toUInt32.toInt32).toInt ≤ 65535) ∧ ¬ ((255 : Int32) < ((x &&& (255 : Int32)).toUInt32.toUInt16.toUInt32.toInt32)) := by
  have a := c_mask x 255 8 (by decide) (by decide)
  have p8 : ((2 ^ 8 : Nat) : Int) = 256 := by decide
  rw [p8] at a
  have e : (255 : Int32).toInt = 255 := by decide
  have c1 := c_i2c (x &&& (255 : Int32))
  rw [Int32.lt_iff_toInt_lt, e]
  omega
theorem pd_26 : parseMethodDescriptor "([C)V" = some ⟨[(.array .char)], none⟩ := by decide +kernel
theorem pd_27 : parseMethodDescriptor "(Ljava/lang/String;Ljava/lang/String;)V" = some ⟨[(.object "java/lang/String"), (.object "java/lang/String")], none⟩ := by decide +kernel
def Q0 (Z : State) (p0 : Int32) (p1 : Int32) (cst : Int32) (fv : Value) (h0 : Heap) (n0 : Nat) (v : Option Value) (h : Heap) (L : List Loc) : Prop := v = some (.int (1 : Int32)) ∧ Fr n0 L
theorem ef_rm0 (m : MethodId) (x0 : Int32) (x1 : Int32) : entryFrame m #[(.int x0), (.int x1)] maxLocals = mkF m 0 #[.val (.int x0), .val (.int x1), .unset, .unset, .unset, .unset, .unset, .unset, .unset, .unset, .unset, .unset, .unset, .unset, .unset, .unset] [] := by first | (simp [entryFrame, mkF, argsToLocals, Value.category, maxLocals]; done) | rfl
set_option maxRecDepth 65536 in
set_option maxHeartbeats 40000000 in
theorem rm0 (l : Launch) (Z : State) (a0 : Array Value) (hw : ∀ d ∈ tables_1, d.before a0 Z = true) (ws : List Jvm.Cond) (p0 : Int32) (p1 : Int32) (cst : Int32) (fv : Value) (h0 : Heap) (n0 : Nat) (Z0 : n0 ≤ h0.size) (O0 : Old Z n0 h0) (SS : Sts Z cst fv) :
  MetFree l x (head1 (Jvm.Cond.code x code maxLocals ret :: ws) room_1) (fun a U => a = #[(.int p0), (.int p1)] ∧ Z.Warmed39 U.vm ∧ U.heap = h0 ∧ CHv Z own_EL U.vm h0) (fun _ _ _ _ _ => True) (fun _ U o U' => ∃ v L, o = .returned v ∧ Q0 Z p0 p1 cst fv h0 n0 v U'.heap L ∧ ReturnedEndW U o U' L room_1.cells room_1.slots) := by
 refine MetFree.of_bodySF (plainFor_of_name pnc_com_example_fides_fides_RecordIdToStringPinLaw) hisR ?_
 intro p e s m args below meth c s₁ Bd hml0 hP hK
 obtain ⟨rfl, hZ, hh, CH0⟩ := hP
 have hx := Bd.exec
 have hby := Bd.bytes
 have hml : c.maxLocals = 16 := hml0
 have hown : s.vm.findClass "com/example/fides/fides/RecordIdToStringPinLaw" = some m.cls := findClass_of_methodNamed Bd.named
 have hnm := (name_of_methodNamed Bd.named Bd.method).1
 have X0 : Stand p l e room_1 s m #[(.int p0), (.int p1)] below meth c s₁ [] 0 0 := Stand.of_body Bd
 have e0 : s₁.heap = h0 := by rw [← hh, Bd.state]; rfl
 have N0 := Fr.nil n0
 have kp0 : Keep h0 h0 [] := Keep.refl _ _
 have G0 : ∀ t, Steps p.tables e below (s₁.setTop (mkF m 0 #[iv p0, iv p1, .unset, .unset, .unset, .unset, .unset, .unset, .unset, .unset, .unset, .unset, .unset, .unset, .unset, .unset] [])) t → Steps p.tables e below (s₁.setTop (entryFrame m #[(.int p0), (.int p1)] maxLocals)) t := fun t k => castTop (ef_rm0 m p0 p1) k
 have X0 : Stand p l e room_1 (s.setVm s.vm) m #[(.int p0), (.int p1)] below meth c s₁ [] 0 0 := X0
 have hZ : Z.Warmed39 (s.setVm s.vm).vm := hZ
 have hown : (s.setVm s.vm).vm.findClass "com/example/fides/fides/RecordIdToStringPinLaw" = some m.cls := hown
 have hEL : EW Z a0 own_EL := own_ew hw
 have CR0 : CHr Z own_EL s.vm h0 s.vm h0 := CHr.refl CH0
 have hS : s.Since s.vm 0 := (State.WarmedH.refl s).since 0
 have hk : 0 ≤ h0.size := Nat.zero_le _
 have G1 : ∀ t, Steps p.tables e below (s₁.setTop (mkF m 78 #[iv p0, iv p1, iv ((p0 &&& (255 : Int32)).toUInt32.toUInt16.toUInt32.toInt32), iv ((((p0.toUInt32 >>> ((8 : Int32) &&& 31).toUInt32).toInt32) &&& (255 : Int32)).toUInt32.toUInt16.toUInt32.toInt32), iv ((((p0.toUInt32 >>> ((16 : Int32) &&& 31).toUInt32).toInt32) &&& (255 : Int32)).toUInt32.toUInt16.toUInt32.toInt32), iv ((1 : Int32) + ((((p0.toUInt32 >>> ((24 : Int32) &&& 31).toUInt32).toInt32) &&& (3 : Int32)) % (3 : Int32))), iv ((p1 &&& (255 : Int32)).toUInt32.toUInt16.toUInt32.toInt32), iv ((((p1.toUInt32 >>> ((8 : Int32) &&& 31).toUInt32).toInt32) &&& (255 : Int32)).toUInt32.toUInt16.toUInt32.toInt32), iv ((((p1.toUInt32 >>> ((16 : Int32) &&& 31).toUInt32).toInt32) &&& (255 : Int32)).toUInt32.toUInt16.toUInt32.toInt32), iv (((p1.toUInt32 >>> ((24 : Int32) &&& 31).toUInt32).toInt32) &&& (3 : Int32)), .unset, .unset, .unset, .unset, .unset, .unset] [])) t → Steps p.tables e below (s₁.setTop (entryFrame m #[(.int p0), (.int p1)] maxLocals)) t := by
  intro t kt
  refine G0 _ ?_
  refine XS.iloadN X0.here hx rfl (hb hby at_0) rfl ?_
  refine XS.sipush X0.here hx rfl (hb hby at_1) ?_
  refine XS.iand X0.here hx rfl (hb hby at_4) rfl ?_
  refine XS.i2c X0.here hx rfl (hb hby at_5) rfl ?_
  refine XS.istoreN X0.here hx rfl (hb hby at_6) rfl (l' := #[iv p0, iv p1, iv ((p0 &&& (255 : Int32)).toUInt32.toUInt16.toUInt32.toInt32), .unset, .unset, .unset, .unset, .unset, .unset, .unset, .unset, .unset, .unset, .unset, .unset, .unset]) rfl ?_
  refine XS.iloadN X0.here hx rfl (hb hby at_7) rfl ?_
  refine XS.bipush X0.here hx rfl (hb hby at_8) ?_
  refine XS.iushr X0.here hx rfl (hb hby at_10) rfl ?_
  refine XS.sipush X0.here hx rfl (hb hby at_11) ?_
  refine XS.iand X0.here hx rfl (hb hby at_14) rfl ?_
  refine XS.i2c X0.here hx rfl (hb hby at_15) rfl ?_
  refine XS.istoreN X0.here hx rfl (hb hby at_16) rfl (l' := #[iv p0, iv p1, iv ((p0 &&& (255 : Int32)).toUInt32.toUInt16.toUInt32.toInt32), iv ((((p0.toUInt32 >>> ((8 : Int32) &&& 31).toUInt32).toInt32) &&& (255 : Int32)).toUInt32.toUInt16.toUInt32.toInt32), .unset, .unset, .unset, .unset, .unset, .unset, .unset, .unset, .unset, .unset, .unset, .unset]) rfl ?_
  refine XS.iloadN X0.here hx rfl (hb hby at_17) rfl ?_
  refine XS.bipush X0.here hx rfl (hb hby at_18) ?_
  refine XS.iushr X0.here hx rfl (hb hby at_20) rfl ?_
  refine XS.sipush X0.here hx rfl (hb hby at_21) ?_
  refine XS.iand X0.here hx rfl (hb hby at_24) rfl ?_
  refine XS.i2c X0.here hx rfl (hb hby at_25) rfl ?_
  refine XS.istore X0.here hx rfl (hb hby at_26) rfl (l' := #[iv p0, iv p1, iv ((p0 &&& (255 : Int32)).toUInt32.toUInt16.toUInt32.toInt32), iv ((((p0.toUInt32 >>> ((8 : Int32) &&& 31).toUInt32).toInt32) &&& (255 : Int32)).toUInt32.toUInt16.toUInt32.toInt32), iv ((((p0.toUInt32 >>> ((16 : Int32) &&& 31).toUInt32).toInt32) &&& (255 : Int32)).toUInt32.toUInt16.toUInt32.toInt32), .unset, .unset, .unset, .unset, .unset, .unset, .unset, .unset, .unset, .unset, .unset]) rfl ?_
  show Steps p.tables e below (s₁.setTop (mkF m 28 #[iv p0, iv p1, iv ((p0 &&& (255 : Int32)).toUInt32.toUInt16.toUInt32.toInt32), iv ((((p0.toUInt32 >>> ((8 : Int32) &&& 31).toUInt32).toInt32) &&& (255 : Int32)).toUInt32.toUInt16.toUInt32.toInt32), iv ((((p0.toUInt32 >>> ((16 : Int32) &&& 31).toUInt32).toInt32) &&& (255 : Int32)).toUInt32.toUInt16.toUInt32.toInt32), .unset, .unset, .unset, .unset, .unset, .unset, .unset, .unset, .unset, .unset, .unset] [])) _
  refine XS.iconst X0.here hx rfl (hb hby at_28) ?_
  refine XS.iloadN X0.here hx rfl (hb hby at_29) rfl ?_
  refine XS.bipush X0.here hx rfl (hb hby at_30) ?_
  refine XS.iushr X0.here hx rfl (hb hby at_32) rfl ?_
  refine XS.iconst X0.here hx rfl (hb hby at_33) ?_
  refine XS.iand X0.here hx rfl (hb hby at_34) rfl ?_
  refine XS.iconst X0.here hx rfl (hb hby at_35) ?_
  refine iremM X0 hx rfl (hb hby at_36) rfl (by decide) ?_
  refine XS.iadd X0.here hx rfl (hb hby at_37) rfl ?_
  refine XS.istore X0.here hx rfl (hb hby at_38) rfl (l' := #[iv p0, iv p1, iv ((p0 &&& (255 : Int32)).toUInt32.toUInt16.toUInt32.toInt32), iv ((((p0.toUInt32 >>> ((8 : Int32) &&& 31).toUInt32).toInt32) &&& (255 : Int32)).toUInt32.toUInt16.toUInt32.toInt32), iv ((((p0.toUInt32 >>> ((16 : Int32) &&& 31).toUInt32).toInt32) &&& (255 : Int32)).toUInt32.toUInt16.toUInt32.toInt32), iv ((1 : Int32) + ((((p0.toUInt32 >>> ((24 : Int32) &&& 31).toUInt32).toInt32) &&& (3 : Int32)) % (3 : Int32))), .unset, .unset, .unset, .unset, .unset, .unset, .unset, .unset, .unset, .unset]) rfl ?_
  refine XS.iloadN X0.here hx rfl (hb hby at_40) rfl ?_
  refine XS.sipush X0.here hx rfl (hb hby at_41) ?_
  refine XS.iand X0.here hx rfl (hb hby at_44) rfl ?_
  refine XS.i2c X0.here hx rfl (hb hby at_45) rfl ?_
  refine XS.istore X0.here hx rfl (hb hby at_46) rfl (l' := #[iv p0, iv p1, iv ((p0 &&& (255 : Int32)).toUInt32.toUInt16.toUInt32.toInt32), iv ((((p0.toUInt32 >>> ((8 : Int32) &&& 31).toUInt32).toInt32) &&& (255 : Int32)).toUInt32.toUInt16.toUInt32.toInt32), iv ((((p0.toUInt32 >>> ((16 : Int32) &&& 31).toUInt32).toInt32) &&& (255 : Int32)).toUInt32.toUInt16.toUInt32.toInt32), iv ((1 : Int32) + ((((p0.toUInt32 >>> ((24 : Int32) &&& 31).toUInt32).toInt32) &&& (3 : Int32)) % (3 : Int32))), iv ((p1 &&& (255 : Int32)).toUInt32.toUInt16.toUInt32.toInt32), .unset, .unset, .unset, .unset, .unset, .unset, .unset, .unset, .unset]) rfl ?_
  refine XS.iloadN X0.here hx rfl (hb hby at_48) rfl ?_
  refine XS.bipush X0.here hx rfl (hb hby at_49) ?_
  refine XS.iushr X0.here hx rfl (hb hby at_51) rfl ?_
  refine XS.sipush X0.here hx rfl (hb hby at_52) ?_
  refine XS.iand X0.here hx rfl (hb hby at_55) rfl ?_
  show Steps p.tables e below (s₁.setTop (mkF m 56 #[iv p0, iv p1, iv ((p0 &&& (255 : Int32)).toUInt32.toUInt16.toUInt32.toInt32), iv ((((p0.toUInt32 >>> ((8 : Int32) &&& 31).toUInt32).toInt32) &&& (255 : Int32)).toUInt32.toUInt16.toUInt32.toInt32), iv ((((p0.toUInt32 >>> ((16 : Int32) &&& 31).toUInt32).toInt32) &&& (255 : Int32)).toUInt32.toUInt16.toUInt32.toInt32), iv ((1 : Int32) + ((((p0.toUInt32 >>> ((24 : Int32) &&& 31).toUInt32).toInt32) &&& (3 : Int32)) % (3 : Int32))), iv ((p1 &&& (255 : Int32)).toUInt32.toUInt16.toUInt32.toInt32), .unset, .unset, .unset, .unset, .unset, .unset, .unset, .unset, .unset] [(.int (((p1.toUInt32 >>> ((8 : Int32) &&& 31).toUInt32).toInt32) &&& (255 : Int32)))])) _
  refine XS.i2c X0.here hx rfl (hb hby at_56) rfl ?_
  refine XS.istore X0.here hx rfl (hb hby at_57) rfl (l' := #[iv p0, iv p1, iv ((p0 &&& (255 : Int32)).toUInt32.toUInt16.toUInt32.toInt32), iv ((((p0.toUInt32 >>> ((8 : Int32) &&& 31).toUInt32).toInt32) &&& (255 : Int32)).toUInt32.toUInt16.toUInt32.toInt32), iv ((((p0.toUInt32 >>> ((16 : Int32) &&& 31).toUInt32).toInt32) &&& (255 : Int32)).toUInt32.toUInt16.toUInt32.toInt32), iv ((1 : Int32) + ((((p0.toUInt32 >>> ((24 : Int32) &&& 31).toUInt32).toInt32) &&& (3 : Int32)) % (3 : Int32))), iv ((p1 &&& (255 : Int32)).toUInt32.toUInt16.toUInt32.toInt32), iv ((((p1.toUInt32 >>> ((8 : Int32) &&& 31).toUInt32).toInt32) &&& (255 : Int32)).toUInt32.toUInt16.toUInt32.toInt32), .unset, .unset, .unset, .unset, .unset, .unset, .unset, .unset]) rfl ?_
  refine XS.iloadN X0.here hx rfl (hb hby at_59) rfl ?_
  refine XS.bipush X0.here hx rfl (hb hby at_60) ?_
  refine XS.iushr X0.here hx rfl (hb hby at_62) rfl ?_
  refine XS.sipush X0.here hx rfl (hb hby at_63) ?_
  refine XS.iand X0.here hx rfl (hb hby at_66) rfl ?_
  refine XS.i2c X0.here hx rfl (hb hby at_67) rfl ?_
  refine XS.istore X0.here hx rfl (hb hby at_68) rfl (l' := #[iv p0, iv p1, iv ((p0 &&& (255 : Int32)).toUInt32.toUInt16.toUInt32.toInt32), iv ((((p0.toUInt32 >>> ((8 : Int32) &&& 31).toUInt32).toInt32) &&& (255 : Int32)).toUInt32.toUInt16.toUInt32.toInt32), iv ((((p0.toUInt32 >>> ((16 : Int32) &&& 31).toUInt32).toInt32) &&& (255 : Int32)).toUInt32.toUInt16.toUInt32.toInt32), iv ((1 : Int32) + ((((p0.toUInt32 >>> ((24 : Int32) &&& 31).toUInt32).toInt32) &&& (3 : Int32)) % (3 : Int32))), iv ((p1 &&& (255 : Int32)).toUInt32.toUInt16.toUInt32.toInt32), iv ((((p1.toUInt32 >>> ((8 : Int32) &&& 31).toUInt32).toInt32) &&& (255 : Int32)).toUInt32.toUInt16.toUInt32.toInt32), iv ((((p1.toUInt32 >>> ((16 : Int32) &&& 31).toUInt32).toInt32) &&& (255 : Int32)).toUInt32.toUInt16.toUInt32.toInt32), .unset, .unset, .unset, .unset, .unset, .unset, .unset]) rfl ?_
  refine XS.iloadN X0.here hx rfl (hb hby at_70) rfl ?_
  refine XS.bipush X0.here hx rfl (hb hby at_71) ?_
  refine XS.iushr X0.here hx rfl (hb hby at_73) rfl ?_
  refine XS.iconst X0.here hx rfl (hb hby at_74) ?_
  refine XS.iand X0.here hx rfl (hb hby at_75) rfl ?_
  refine XS.istore X0.here hx rfl (hb hby at_76) rfl (l' := #[iv p0, iv p1, iv ((p0 &&& (255 : Int32)).toUInt32.toUInt16.toUInt32.toInt32), iv ((((p0.toUInt32 >>> ((8 : Int32) &&& 31).toUInt32).toInt32) &&& (255 : Int32)).toUInt32.toUInt16.toUInt32.toInt32), iv ((((p0.toUInt32 >>> ((16 : Int32) &&& 31).toUInt32).toInt32) &&& (255 : Int32)).toUInt32.toUInt16.toUInt32.toInt32), iv ((1 : Int32) + ((((p0.toUInt32 >>> ((24 : Int32) &&& 31).toUInt32).toInt32) &&& (3 : Int32)) % (3 : Int32))), iv ((p1 &&& (255 : Int32)).toUInt32.toUInt16.toUInt32.toInt32), iv ((((p1.toUInt32 >>> ((8 : Int32) &&& 31).toUInt32).toInt32) &&& (255 : Int32)).toUInt32.toUInt16.toUInt32.toInt32), iv ((((p1.toUInt32 >>> ((16 : Int32) &&& 31).toUInt32).toInt32) &&& (255 : Int32)).toUInt32.toUInt16.toUInt32.toInt32), iv (((p1.toUInt32 >>> ((24 : Int32) &&& 31).toUInt32).toInt32) &&& (3 : Int32)), .unset, .unset, .unset, .unset, .unset, .unset]) rfl ?_
  exact kt
 obtain ⟨c0, hc0⟩ : ∃ z : Int32, z = ((p0 &&& (255 : Int32)).toUInt32.toUInt16.toUInt32.toInt32) := ⟨_, rfl⟩
 obtain ⟨c1, hc1⟩ : ∃ z : Int32, z = ((((p0.toUInt32 >>> ((8 : Int32) &&& 31).toUInt32).toInt32) &&& (255 : Int32)).toUInt32.toUInt16.toUInt32.toInt32) := ⟨_, rfl⟩
 obtain ⟨c2, hc2⟩ : ∃ z : Int32, z = ((((p0.toUInt32 >>> ((16 : Int32) &&& 31).toUInt32).toInt32) &&& (255 : Int32)).toUInt32.toUInt16.toUInt32.toInt32) := ⟨_, rfl⟩
 obtain ⟨u1, hu1⟩ : ∃ z : Int32, z = ((1 : Int32) + ((((p0.toUInt32 >>> ((24 : Int32) &&& 31).toUInt32).toInt32) &&& (3 : Int32)) % (3 : Int32))) := ⟨_, rfl⟩
 obtain ⟨d0, hd0⟩ : ∃ z : Int32, z = ((p1 &&& (255 : Int32)).toUInt32.toUInt16.toUInt32.toInt32) := ⟨_, rfl⟩
 obtain ⟨d1, hd1⟩ : ∃ z : Int32, z = ((((p1.toUInt32 >>> ((8 : Int32) &&& 31).toUInt32).toInt32) &&& (255 : Int32)).toUInt32.toUInt16.toUInt32.toInt32) := ⟨_, rfl⟩
 obtain ⟨d2, hd2⟩ : ∃ z : Int32, z = ((((p1.toUInt32 >>> ((16 : Int32) &&& 31).toUInt32).toInt32) &&& (255 : Int32)).toUInt32.toUInt16.toUInt32.toInt32) := ⟨_, rfl⟩
 obtain ⟨u2, hu2⟩ : ∃ z : Int32, z = (((p1.toUInt32 >>> ((24 : Int32) &&& 31).toUInt32).toInt32) &&& (3 : Int32)) := ⟨_, rfl⟩
 have G2 : ∀ t, Steps p.tables e below (s₁.setTop (mkF m 78 #[iv p0, iv p1, iv c0, iv c1, iv c2, iv u1, iv d0, iv d1, iv d2, iv u2, .unset, .unset, .unset, .unset, .unset, .unset] [])) t → Steps p.tables e below (s₁.setTop (entryFrame m #[(.int p0), (.int p1)] maxLocals)) t := by
  intro t kt
  rw [hc0, hc1, hc2, hu1, hd0, hd1, hd2, hu2] at kt
  exact G1 t kt
 have hb_c0 : 0 ≤ c0.toInt ∧ c0.toInt ≤ 65535 := by rw [hc0]; exact (own_c255 _).1
 have hp_c0 : ¬ ((255 : Int32) < c0) := by rw [hc0]; exact (own_c255 _).2
 have hb_c1 : 0 ≤ c1.toInt ∧ c1.toInt ≤ 65535 := by rw [hc1]; exact (own_c255 _).1
 have hp_c1 : ¬ ((255 : Int32) < c1) := by rw [hc1]; exact (own_c255 _).2
 have hb_c2 : 0 ≤ c2.toInt ∧ c2.toInt ≤ 65535 := by rw [hc2]; exact (own_c255 _).1
 have hp_c2 : ¬ ((255 : Int32) < c2) := by rw [hc2]; exact (own_c255 _).2
 have hb_d0 : 0 ≤ d0.toInt ∧ d0.toInt ≤ 65535 := by rw [hd0]; exact (own_c255 _).1
 have hp_d0 : ¬ ((255 : Int32) < d0) := by rw [hd0]; exact (own_c255 _).2
 have hb_d1 : 0 ≤ d1.toInt ∧ d1.toInt ≤ 65535 := by rw [hd1]; exact (own_c255 _).1
 have hp_d1 : ¬ ((255 : Int32) < d1) := by rw [hd1]; exact (own_c255 _).2
 have hb_d2 : 0 ≤ d2.toInt ∧ d2.toInt ≤ 65535 := by rw [hd2]; exact (own_c255 _).1
 have hp_d2 : ¬ ((255 : Int32) < d2) := by rw [hd2]; exact (own_c255 _).2
 have hu1' : u1 = 1 ∨ u1 = 2 ∨ u1 = 3 := by rw [hu1]; exact own_at3 _
 have hu2' : 0 ≤ u2.toInt ∧ u2.toInt ≤ 3 := by rw [hu2]; exact own_m3 _
 obtain ⟨T3, h3, k3, X3, e3, E3, A3, st3⟩ := newP X0 hx hZ (hq hw 0 rfl) e0 (g := (mkF m 79 #[iv p0, iv p1, iv c0, iv c1, iv c2, iv u1, iv d0, iv d1, iv d2, iv u2, .unset, .unset, .unset, .unset, .unset, .unset] [(.int (3 : Int32))])) rfl (hb hby at_79) rfl (by decide) (cap := 3) (by decide) (by decide) (by decide) (by decide)
 obtain ⟨b3, g3⟩ : ∃ z, z = h0.size := ⟨_, rfl⟩
 rw [← g3] at A3 st3
 have g_b3 : n0 ≤ b3 := Nat.le_trans Z0 (Nat.le_of_eq g3.symm)
 have sz_b3 : h0.size ≤ b3 := Nat.le_trans kp0.1 (Nat.le_of_eq g3.symm)
 have ch4 : CHv Z own_EL s.vm h3 := CH0.ext E3
 have cr4 : CHr Z own_EL s.vm h0 s.vm h3 := CR0.trans (CHr.ext E3 CH0)
 have sf4_b3 : Safe Z own_EL s.vm h3 b3 := Safe.ext E3 CH0 (Safe.new (Nat.le_of_eq g3.symm))
 have fa5 := O0.ext E3
 have z6 : n0 ≤ h3.size := Nat.le_trans Z0 E3.1
 have hk := Nat.le_trans hk E3.1
 have kp7 : Keep h0 h3 [] := kp0.ext E3
 have fa8 : Arv Z h3 b3 k3 .char (3 : Int32) [(.int (0 : Int32)), (.int (0 : Int32)), (.int (0 : Int32))] (.int (0 : Int32)) := (Arv.new A3 (by decide)).pad (pad_rep [] (.int (0 : Int32)) 3)
 obtain ⟨cl9, Ar9, q9, S9, M9, H9, G9⟩ := id fa8
 have hin9 : ¬ ((0 : Int32) < 0 ∨ cl9.slots.size ≤ ((0 : Int32)).toNatClampNeg) := inb_of S9 ⟨by decide, by decide⟩
 obtain ⟨T10, h10, X10, e10, W10, st10⟩ := stC X3 hx hZ e3 Ar9 (j := (0 : Int32)) hin9 (g := (mkF m 84 #[iv p0, iv p1, iv c0, iv c1, iv c2, iv u1, iv d0, iv d1, iv d2, iv u2, .unset, .unset, .unset, .unset, .unset, .unset] [(.int c0), (.int (0 : Int32)), (.ref b3), (.ref b3)])) rfl rfl (hb hby at_84)
 have ch11 : CHv Z own_EL s.vm h10 := ch4.wr W10 sf4_b3
 have cr11 : CHr Z own_EL s.vm h0 s.vm h10 := cr4.trans (CHr.wr W10 sf4_b3 ch4)
 have sf11_b3 : Safe Z own_EL s.vm h10 b3 := Safe.wr W10 sf4_b3 ch4 sf4_b3
 have fa12 := fa5.wr W10 g_b3
 have z13 : n0 ≤ h10.size := Nat.le_trans z6 (Nat.le_of_eq W10.size.symm)
 have hk := Nat.le_trans hk (Nat.le_of_eq W10.size.symm)
 have kp14 : Keep h0 h10 [] := kp7.wr W10 (Or.inr sz_b3)
 have fa15 : Arv Z h10 b3 k3 .char (3 : Int32) [(.int (nar .char c0)), (.int (0 : Int32)), (.int (0 : Int32))] (.int (0 : Int32)) := Arv.set Ar9 q9 S9 M9 H9 G9 (fits_nar_char _) W10 0 rfl (Nat.le_of_ble_eq_true rfl)
 have N10 := Fr.snoc X10 N0 g_b3
 obtain ⟨cl16, Ar16, q16, S16, M16, H16, G16⟩ := id fa15
 have hin16 : ¬ ((1 : Int32) < 0 ∨ cl16.slots.size ≤ ((1 : Int32)).toNatClampNeg) := inb_of S16 ⟨by decide, by decide⟩
 obtain ⟨T17, h17, X17, e17, W17, st17⟩ := stC X10 hx hZ e10 Ar16 (j := (1 : Int32)) hin16 (g := (mkF m 88 #[iv p0, iv p1, iv c0, iv c1, iv c2, iv u1, iv d0, iv d1, iv d2, iv u2, .unset, .unset, .unset, .unset, .unset, .unset] [(.int c1), (.int (1 : Int32)), (.ref b3), (.ref b3)])) rfl rfl (hb hby at_88)
 have ch18 : CHv Z own_EL s.vm h17 := ch11.wr W17 sf11_b3
 have cr18 : CHr Z own_EL s.vm h0 s.vm h17 := cr11.trans (CHr.wr W17 sf11_b3 ch11)
 have sf18_b3 : Safe Z own_EL s.vm h17 b3 := Safe.wr W17 sf11_b3 ch11 sf11_b3
 have fa19 := fa12.wr W17 g_b3
 have z20 : n0 ≤ h17.size := Nat.le_trans z13 (Nat.le_of_eq W17.size.symm)
 have hk := Nat.le_trans hk (Nat.le_of_eq W17.size.symm)
 have kp21 : Keep h0 h17 [] := kp14.wr W17 (Or.inr sz_b3)
 have fa22 : Arv Z h17 b3 k3 .char (3 : Int32) [(.int (nar .char c0)), (.int (nar .char c1)), (.int (0 : Int32))] (.int (0 : Int32)) := Arv.set Ar16 q16 S16 M16 H16 G16 (fits_nar_char _) W17 1 rfl (Nat.le_of_ble_eq_true rfl)
 have N17 := Fr.snoc X17 N10 g_b3
 obtain ⟨cl23, Ar23, q23, S23, M23, H23, G23⟩ := id fa22
 have hin23 : ¬ ((2 : Int32) < 0 ∨ cl23.slots.size ≤ ((2 : Int32)).toNatClampNeg) := inb_of S23 ⟨by decide, by decide⟩
 obtain ⟨T24, h24, X24, e24, W24, st24⟩ := stC X17 hx hZ e17 Ar23 (j := (2 : Int32)) hin23 (g := (mkF m 93 #[iv p0, iv p1, iv c0, iv c1, iv c2, iv u1, iv d0, iv d1, iv d2, iv u2, .unset, .unset, .unset, .unset, .unset, .unset] [(.int c2), (.int (2 : Int32)), (.ref b3), (.ref b3)])) rfl rfl (hb hby at_93)
 have ch25 : CHv Z own_EL s.vm h24 := ch18.wr W24 sf18_b3
 have cr25 : CHr Z own_EL s.vm h0 s.vm h24 := cr18.trans (CHr.wr W24 sf18_b3 ch18)
 have sf25_b3 : Safe Z own_EL s.vm h24 b3 := Safe.wr W24 sf18_b3 ch18 sf18_b3
 have fa26 := fa19.wr W24 g_b3
 have z27 : n0 ≤ h24.size := Nat.le_trans z20 (Nat.le_of_eq W24.size.symm)
 have hk := Nat.le_trans hk (Nat.le_of_eq W24.size.symm)
 have kp28 : Keep h0 h24 [] := kp21.wr W24 (Or.inr sz_b3)
 have fa29 : Arv Z h24 b3 k3 .char (3 : Int32) [(.int (nar .char c0)), (.int (nar .char c1)), (.int (nar .char c2))] (.int (0 : Int32)) := Arv.set Ar23 q23 S23 M23 H23 G23 (fits_nar_char _) W24 2 rfl (Nat.le_of_ble_eq_true rfl)
 have N24 := Fr.snoc X24 N17 g_b3
 obtain ⟨T30, h30, k30, X30, e30, E30, A30, st30⟩ := newP X24 hx hZ (hq hw 0 rfl) e24 (g := (mkF m 97 #[iv p0, iv p1, iv c0, iv c1, iv c2, iv u1, iv d0, iv d1, iv d2, iv u2, rv b3, .unset, .unset, .unset, .unset, .unset] [(.int (3 : Int32))])) rfl (hb hby at_97) rfl (by decide) (cap := 3) (by decide) (by decide) (by decide) (by decide)
 obtain ⟨b30, g30⟩ : ∃ z, z = h24.size := ⟨_, rfl⟩
 rw [← g30] at A30 st30
 have g_b30 : n0 ≤ b30 := Nat.le_trans z27 (Nat.le_of_eq g30.symm)
 have sz_b30 : h0.size ≤ b30 := Nat.le_trans kp28.1 (Nat.le_of_eq g30.symm)
 have ne_b3_b30 : b3 ≠ b30 := Nat.ne_of_lt (Nat.lt_of_lt_of_le fa29.lt (Nat.le_of_eq g30.symm))
 have ch31 : CHv Z own_EL s.vm h30 := ch25.ext E30
 have cr31 : CHr Z own_EL s.vm h0 s.vm h30 := cr25.trans (CHr.ext E30 ch25)
 have sf31_b3 : Safe Z own_EL s.vm h30 b3 := Safe.ext E30 ch25 sf25_b3
 have sf31_b30 : Safe Z own_EL s.vm h30 b30 := Safe.ext E30 ch25 (Safe.new (Nat.le_of_eq g30.symm))
 have fa32 := fa26.ext E30
 have fa33 := fa29.ext E30
 have z34 : n0 ≤ h30.size := Nat.le_trans z27 E30.1
 have hk := Nat.le_trans hk E30.1
 have kp35 : Keep h0 h30 [] := kp28.ext E30
 have fa36 : Arv Z h30 b30 k30 .char (3 : Int32) [(.int (0 : Int32)), (.int (0 : Int32)), (.int (0 : Int32))] (.int (0 : Int32)) := (Arv.new A30 (by decide)).pad (pad_rep [] (.int (0 : Int32)) 3)
 obtain ⟨cl37, Ar37, q37, S37, M37, H37, G37⟩ := id fa36
 have hin37 : ¬ ((0 : Int32) < 0 ∨ cl37.slots.size ≤ ((0 : Int32)).toNatClampNeg) := inb_of S37 ⟨by decide, by decide⟩
 obtain ⟨T38, h38, X38, e38, W38, st38⟩ := stC X30 hx hZ e30 Ar37 (j := (0 : Int32)) hin37 (g := (mkF m 103 #[iv p0, iv p1, iv c0, iv c1, iv c2, iv u1, iv d0, iv d1, iv d2, iv u2, rv b3, .unset, .unset, .unset, .unset, .unset] [(.int d0), (.int (0 : Int32)), (.ref b30), (.ref b30)])) rfl rfl (hb hby at_103)
 have ch39 : CHv Z own_EL s.vm h38 := ch31.wr W38 sf31_b30
 have cr39 : CHr Z own_EL s.vm h0 s.vm h38 := cr31.trans (CHr.wr W38 sf31_b30 ch31)
 have sf39_b3 : Safe Z own_EL s.vm h38 b3 := Safe.wr W38 sf31_b30 ch31 sf31_b3
 have sf39_b30 : Safe Z own_EL s.vm h38 b30 := Safe.wr W38 sf31_b30 ch31 sf31_b30
 have fa40 := fa32.wr W38 g_b30
 have fa41 := fa33.other W38 ne_b3_b30
 have z42 : n0 ≤ h38.size := Nat.le_trans z34 (Nat.le_of_eq W38.size.symm)
 have hk := Nat.le_trans hk (Nat.le_of_eq W38.size.symm)
 have kp43 : Keep h0 h38 [] := kp35.wr W38 (Or.inr sz_b30)
 have fa44 : Arv Z h38 b30 k30 .char (3 : Int32) [(.int (nar .char d0)), (.int (0 : Int32)), (.int (0 : Int32))] (.int (0 : Int32)) := Arv.set Ar37 q37 S37 M37 H37 G37 (fits_nar_char _) W38 0 rfl (Nat.le_of_ble_eq_true rfl)
 have N38 := Fr.snoc X38 N24 g_b30
 obtain ⟨cl45, Ar45, q45, S45, M45, H45, G45⟩ := id fa44
 have hin45 : ¬ ((1 : Int32) < 0 ∨ cl45.slots.size ≤ ((1 : Int32)).toNatClampNeg) := inb_of S45 ⟨by decide, by decide⟩
 obtain ⟨T46, h46, X46, e46, W46, st46⟩ := stC X38 hx hZ e38 Ar45 (j := (1 : Int32)) hin45 (g := (mkF m 108 #[iv p0, iv p1, iv c0, iv c1, iv c2, iv u1, iv d0, iv d1, iv d2, iv u2, rv b3, .unset, .unset, .unset, .unset, .unset] [(.int d1), (.int (1 : Int32)), (.ref b30), (.ref b30)])) rfl rfl (hb hby at_108)
 have ch47 : CHv Z own_EL s.vm h46 := ch39.wr W46 sf39_b30
 have cr47 : CHr Z own_EL s.vm h0 s.vm h46 := cr39.trans (CHr.wr W46 sf39_b30 ch39)
 have sf47_b3 : Safe Z own_EL s.vm h46 b3 := Safe.wr W46 sf39_b30 ch39 sf39_b3
 have sf47_b30 : Safe Z own_EL s.vm h46 b30 := Safe.wr W46 sf39_b30 ch39 sf39_b30
 have fa48 := fa40.wr W46 g_b30
 have fa49 := fa41.other W46 ne_b3_b30
 have z50 : n0 ≤ h46.size := Nat.le_trans z42 (Nat.le_of_eq W46.size.symm)
 have hk := Nat.le_trans hk (Nat.le_of_eq W46.size.symm)
 have kp51 : Keep h0 h46 [] := kp43.wr W46 (Or.inr sz_b30)
 have fa52 : Arv Z h46 b30 k30 .char (3 : Int32) [(.int (nar .char d0)), (.int (nar .char d1)), (.int (0 : Int32))] (.int (0 : Int32)) := Arv.set Ar45 q45 S45 M45 H45 G45 (fits_nar_char _) W46 1 rfl (Nat.le_of_ble_eq_true rfl)
 have N46 := Fr.snoc X46 N38 g_b30
 obtain ⟨cl53, Ar53, q53, S53, M53, H53, G53⟩ := id fa52
 have hin53 : ¬ ((2 : Int32) < 0 ∨ cl53.slots.size ≤ ((2 : Int32)).toNatClampNeg) := inb_of S53 ⟨by decide, by decide⟩
 obtain ⟨T54, h54, X54, e54, W54, st54⟩ := stC X46 hx hZ e46 Ar53 (j := (2 : Int32)) hin53 (g := (mkF m 113 #[iv p0, iv p1, iv c0, iv c1, iv c2, iv u1, iv d0, iv d1, iv d2, iv u2, rv b3, .unset, .unset, .unset, .unset, .unset] [(.int d2), (.int (2 : Int32)), (.ref b30), (.ref b30)])) rfl rfl (hb hby at_113)
 have ch55 : CHv Z own_EL s.vm h54 := ch47.wr W54 sf47_b30
 have cr55 : CHr Z own_EL s.vm h0 s.vm h54 := cr47.trans (CHr.wr W54 sf47_b30 ch47)
 have sf55_b3 : Safe Z own_EL s.vm h54 b3 := Safe.wr W54 sf47_b30 ch47 sf47_b3
 have sf55_b30 : Safe Z own_EL s.vm h54 b30 := Safe.wr W54 sf47_b30 ch47 sf47_b30
 have fa56 := fa48.wr W54 g_b30
 have fa57 := fa49.other W54 ne_b3_b30
 have z58 : n0 ≤ h54.size := Nat.le_trans z50 (Nat.le_of_eq W54.size.symm)
 have hk := Nat.le_trans hk (Nat.le_of_eq W54.size.symm)
 have kp59 : Keep h0 h54 [] := kp51.wr W54 (Or.inr sz_b30)
 have fa60 : Arv Z h54 b30 k30 .char (3 : Int32) [(.int (nar .char d0)), (.int (nar .char d1)), (.int (nar .char d2))] (.int (0 : Int32)) := Arv.set Ar53 q53 S53 M53 H53 G53 (fits_nar_char _) W54 2 rfl (Nat.le_of_ble_eq_true rfl)
 have N54 := Fr.snoc X54 N46 g_b30
 have G61 : ∀ t, Steps p.tables e below (T54.setTop (mkF m 116 #[iv p0, iv p1, iv c0, iv c1, iv c2, iv u1, iv d0, iv d1, iv d2, iv u2, rv b3, rv b30, .unset, .unset, .unset, .unset] [])) t → Steps p.tables e below (s₁.setTop (entryFrame m #[(.int p0), (.int p1)] maxLocals)) t := by
  intro t kt
  refine G2 _ ?_
  refine XS.iconst X0.here hx rfl (hb hby at_78) ?_
  refine st3 _ ?_
  refine XS.dup X3.here hx rfl (hb hby at_81) rfl rfl ?_
  refine XS.iconst X3.here hx rfl (hb hby at_82) ?_
  refine XS.iloadN X3.here hx rfl (hb hby at_83) rfl ?_
  show Steps p.tables e below (T3.setTop (mkF m 84 #[iv p0, iv p1, iv c0, iv c1, iv c2, iv u1, iv d0, iv d1, iv d2, iv u2, .unset, .unset, .unset, .unset, .unset, .unset] [(.int c0), (.int (0 : Int32)), (.ref b3), (.ref b3)])) _
  refine st10 _ ?_
  refine XS.dup X10.here hx rfl (hb hby at_85) rfl rfl ?_
  refine XS.iconst X10.here hx rfl (hb hby at_86) ?_
  refine XS.iloadN X10.here hx rfl (hb hby at_87) rfl ?_
  refine st17 _ ?_
  refine XS.dup X17.here hx rfl (hb hby at_89) rfl rfl ?_
  refine XS.iconst X17.here hx rfl (hb hby at_90) ?_
  refine XS.iload X17.here hx rfl (hb hby at_91) rfl ?_
  refine st24 _ ?_
  refine XS.astore X24.here hx rfl (hb hby at_94) rfl rfl (l' := #[iv p0, iv p1, iv c0, iv c1, iv c2, iv u1, iv d0, iv d1, iv d2, iv u2, rv b3, .unset, .unset, .unset, .unset, .unset]) rfl ?_
  refine XS.iconst X24.here hx rfl (hb hby at_96) ?_
  refine st30 _ ?_
  refine XS.dup X30.here hx rfl (hb hby at_99) rfl rfl ?_
  refine XS.iconst X30.here hx rfl (hb hby at_100) ?_
  refine XS.iload X30.here hx rfl (hb hby at_101) rfl ?_
  refine st38 _ ?_
  refine XS.dup X38.here hx rfl (hb hby at_104) rfl rfl ?_
  refine XS.iconst X38.here hx rfl (hb hby at_105) ?_
  refine XS.iload X38.here hx rfl (hb hby at_106) rfl ?_
  refine st46 _ ?_
  show Steps p.tables e below (T46.setTop (mkF m 109 #[iv p0, iv p1, iv c0, iv c1, iv c2, iv u1, iv d0, iv d1, iv d2, iv u2, rv b3, .unset, .unset, .unset, .unset, .unset] [(.ref b30)])) _
  refine XS.dup X46.here hx rfl (hb hby at_109) rfl rfl ?_
  refine XS.iconst X46.here hx rfl (hb hby at_110) ?_
  refine XS.iload X46.here hx rfl (hb hby at_111) rfl ?_
  refine st54 _ ?_
  refine XS.astore X54.here hx rfl (hb hby at_114) rfl rfl (l' := #[iv p0, iv p1, iv c0, iv c1, iv c2, iv u1, iv d0, iv d1, iv d2, iv u2, rv b3, rv b30, .unset, .unset, .unset, .unset]) rfl ?_
  exact kt
 have fa62 : Arv Z h54 b3 k3 .char (3 : Int32) [(.int c0), (.int c1), (.int c2)] (.int (0 : Int32)) := by have q := fa57; rw [own_narc c0 hb_c0, own_narc c1 hb_c1, own_narc c2 hb_c2] at q; exact q
 have fa63 : Arv Z h54 b30 k30 .char (3 : Int32) [(.int d0), (.int d1), (.int d2)] (.int (0 : Int32)) := by have q := fa60; rw [own_narc d0 hb_d0, own_narc d1 hb_d1, own_narc d2 hb_d2] at q; exact q
 rcases hu1' with rfl | rfl | rfl
 ·skip
  have G64 : ∀ t, Steps p.tables e below (T54.setTop (mkF m 119 #[iv p0, iv p1, iv c0, iv c1, iv c2, iv 1, iv d0, iv d1, iv d2, iv u2, rv b3, rv b30, .unset, .unset, .unset, .unset] [(.int (1 : Int32)), (.int (1 : Int32))])) t → Steps p.tables e below (s₁.setTop (entryFrame m #[(.int p0), (.int p1)] maxLocals)) t := by
   intro t kt
   refine G61 _ ?_
   refine XS.iload X54.here hx rfl (hb hby at_116) rfl ?_
   refine XS.iconst X54.here hx rfl (hb hby at_118) ?_
   exact kt
  obtain ⟨T65, h65, X65, e65, E65, A65, D65, -, st65⟩ := newO X54 hx hZ hown (hq hw 1 rfl) (hq hw 2 rfl) (hq hw 3 rfl) e54 (g := (mkF m 122 #[iv p0, iv p1, iv c0, iv c1, iv c2, iv 1, iv d0, iv d1, iv d2, iv u2, rv b3, rv b30, .unset, .unset, .unset, .unset] [])) rfl (hb hby at_122) (by decide) (by decide)
  obtain ⟨b65, g65⟩ : ∃ z, z = h54.size := ⟨_, rfl⟩
  rw [← g65] at A65 D65 st65
  have g_b65 : n0 ≤ b65 := Nat.le_trans z58 (Nat.le_of_eq g65.symm)
  have sz_b65 : h0.size ≤ b65 := Nat.le_trans kp59.1 (Nat.le_of_eq g65.symm)
  have ne_b3_b65 : b3 ≠ b65 := Nat.ne_of_lt (Nat.lt_of_lt_of_le fa62.lt (Nat.le_of_eq g65.symm))
  have ne_b30_b65 : b30 ≠ b65 := Nat.ne_of_lt (Nat.lt_of_lt_of_le fa63.lt (Nat.le_of_eq g65.symm))
  have ch66 : CHv Z own_EL s.vm h65 := ch55.ext E65
  have cr66 : CHr Z own_EL s.vm h0 s.vm h65 := cr55.trans (CHr.ext E65 ch55)
  have sf66_b65 : Safe Z own_EL s.vm h65 b65 := Safe.ext E65 ch55 (Safe.new (Nat.le_of_eq g65.symm))
  have fa67 := fa56.ext E65
  have fa68 := fa62.ext E65
  have fa69 := fa63.ext E65
  have z70 : n0 ≤ h65.size := Nat.le_trans z58 E65.1
  have hk := Nat.le_trans hk E65.1
  have kp71 : Keep h0 h65 [] := kp59.ext E65
  have fa72 : Fld Z h65 b65 "java/lang/String" "coder" "B" (.int (0 : Int32)) := D65 (Or.inr (hq hw 27 rfl)) (ty := .byte) (by decide)
  have fa73 : Fld Z h65 b65 "java/lang/String" "value" "[B" .null := D65 (Or.inr (hq hw 29 rfl)) (ty := (.array .byte)) (by decide)
  obtain ⟨T74, h74, k74, X74, e74, E74, A74, st74⟩ := newP X65 hx hZ (hq hw 0 rfl) e65 (g := (mkF m 127 #[iv p0, iv p1, iv c0, iv c1, iv c2, iv 1, iv d0, iv d1, iv d2, iv u2, rv b3, rv b30, .unset, .unset, .unset, .unset] [(.int (1 : Int32)), (.ref b65), (.ref b65)])) rfl (hb hby at_127) rfl (by decide) (cap := 1) (by decide) (by decide) (by decide) (by decide)
  obtain ⟨b74, g74⟩ : ∃ z, z = h65.size := ⟨_, rfl⟩
  rw [← g74] at A74 st74
  have g_b74 : n0 ≤ b74 := Nat.le_trans z70 (Nat.le_of_eq g74.symm)
  have sz_b74 : h0.size ≤ b74 := Nat.le_trans kp71.1 (Nat.le_of_eq g74.symm)
  have ne_b3_b74 : b3 ≠ b74 := Nat.ne_of_lt (Nat.lt_of_lt_of_le fa68.lt (Nat.le_of_eq g74.symm))
  have ne_b30_b74 : b30 ≠ b74 := Nat.ne_of_lt (Nat.lt_of_lt_of_le fa69.lt (Nat.le_of_eq g74.symm))
  have ne_b65_b74 : b65 ≠ b74 := Nat.ne_of_lt (Nat.lt_of_lt_of_le A65.lt (Nat.le_of_eq g74.symm))
  have ch75 : CHv Z own_EL s.vm h74 := ch66.ext E74
  have cr75 : CHr Z own_EL s.vm h0 s.vm h74 := cr66.trans (CHr.ext E74 ch66)
  have sf75_b65 : Safe Z own_EL s.vm h74 b65 := Safe.ext E74 ch66 sf66_b65
  have sf75_b74 : Safe Z own_EL s.vm h74 b74 := Safe.ext E74 ch66 (Safe.new (Nat.le_of_eq g74.symm))
  have fa76 := fa67.ext E74
  have fa77 := fa68.ext E74
  have fa78 := fa69.ext E74
  have fa79 := A65.ext E74
  have fa80 := fa72.ext E74
  have fa81 := fa73.ext E74
  have z82 : n0 ≤ h74.size := Nat.le_trans z70 E74.1
  have hk := Nat.le_trans hk E74.1
  have kp83 : Keep h0 h74 [] := kp71.ext E74
  have fa84 : Arv Z h74 b74 k74 .char (1 : Int32) [(.int (0 : Int32))] (.int (0 : Int32)) := (Arv.new A74 (by decide)).pad (pad_rep [] (.int (0 : Int32)) 1)
  obtain ⟨cl85, Ar85, q85, S85, M85, H85, G85⟩ := id fa84
  have hin85 : ¬ ((0 : Int32) < 0 ∨ cl85.slots.size ≤ ((0 : Int32)).toNatClampNeg) := inb_of S85 ⟨by decide, by decide⟩
  obtain ⟨T86, h86, X86, e86, W86, st86⟩ := stC X74 hx hZ e74 Ar85 (j := (0 : Int32)) hin85 (g := (mkF m 132 #[iv p0, iv p1, iv c0, iv c1, iv c2, iv 1, iv d0, iv d1, iv d2, iv u2, rv b3, rv b30, .unset, .unset, .unset, .unset] [(.int c0), (.int (0 : Int32)), (.ref b74), (.ref b74), (.ref b65), (.ref b65)])) rfl rfl (hb hby at_132)
  have ch87 : CHv Z own_EL s.vm h86 := ch75.wr W86 sf75_b74
  have cr87 : CHr Z own_EL s.vm h0 s.vm h86 := cr75.trans (CHr.wr W86 sf75_b74 ch75)
  have sf87_b65 : Safe Z own_EL s.vm h86 b65 := Safe.wr W86 sf75_b74 ch75 sf75_b65
  have sf87_b74 : Safe Z own_EL s.vm h86 b74 := Safe.wr W86 sf75_b74 ch75 sf75_b74
  have fa88 := fa76.wr W86 g_b74
  have fa89 := fa77.other W86 ne_b3_b74
  have fa90 := fa78.other W86 ne_b30_b74
  have fa91 := fa79.wr W86
  have fa92 := fa80.other W86 (Or.inl ne_b65_b74)
  have fa93 := fa81.other W86 (Or.inl ne_b65_b74)
  have z94 : n0 ≤ h86.size := Nat.le_trans z82 (Nat.le_of_eq W86.size.symm)
  have hk := Nat.le_trans hk (Nat.le_of_eq W86.size.symm)
  have kp95 : Keep h0 h86 [] := kp83.wr W86 (Or.inr sz_b74)
  have fa96 : Arv Z h86 b74 k74 .char (1 : Int32) [(.int (nar .char c0))] (.int (0 : Int32)) := Arv.set Ar85 q85 S85 M85 H85 G85 (fits_nar_char _) W86 0 rfl (Nat.le_of_ble_eq_true rfl)
  have N86 := Fr.snoc X86 N54 g_b74
  have fa97 : Arv Z h86 b74 k74 .char (1 : Int32) [(.int c0)] (.int (0 : Int32)) := by have q := fa96; rw [own_narc c0 hb_c0] at q; exact q
  have G98 : ∀ t, Steps p.tables e below (T86.setTop (mkF m 133 #[iv p0, iv p1, iv c0, iv c1, iv c2, iv 1, iv d0, iv d1, iv d2, iv u2, rv b3, rv b30, .unset, .unset, .unset, .unset] [(.ref b74), (.ref b65), (.ref b65)])) t → Steps p.tables e below (s₁.setTop (entryFrame m #[(.int p0), (.int p1)] maxLocals)) t := by
   intro t kt
   refine G64 _ ?_
   refine XS.icmpNo X54.here hx rfl (hb hby at_119) rfl (teq (by decide)).2 ?_
   refine st65 _ ?_
   refine XS.dup X65.here hx rfl (hb hby at_125) rfl rfl ?_
   refine XS.iconst X65.here hx rfl (hb hby at_126) ?_
   refine st74 _ ?_
   refine XS.dup X74.here hx rfl (hb hby at_129) rfl rfl ?_
   refine XS.iconst X74.here hx rfl (hb hby at_130) ?_
   refine XS.iloadN X74.here hx rfl (hb hby at_131) rfl ?_
   refine st86 _ ?_
   exact kt
  obtain ⟨_, _, ⟨T99, L99, k99, n99⟩, -, X99, ⟨Lc99, hQ99, l99, y99, z99⟩, st99⟩ := X86.specialBack hx (y := (⟨"java/lang/String", "<init>", "([C)V"⟩ : MethodName)) rfl hown (mvT hZ (hq hw 4 rfl)) (mvT hZ (hq hw 5 rfl)) (mvT hZ (hq hw 6 rfl)) (by decide) (backOf (W := 1) (rmSF_1 l Z a0 hw [] b65 b74 c0 k74 cst fv h86 n0 z94 fa91 fa93 fa92 fa97 fa88 g_b65 ne_b65_b74 hb_c0 hp_c0 SS) hZ (hq hw 6 rfl) (hq hw 3 rfl) (by decide) (by decide)) (g := (mkF m 133 #[iv p0, iv p1, iv c0, iv c1, iv c2, iv 1, iv d0, iv d1, iv d2, iv u2, rv b3, rv b30, .unset, .unset, .unset, .unset] [(.ref b74), (.ref b65), (.ref b65)])) rfl (by rw [hml]; rfl) (Steps.refl _) (a := b65) (argsL := [(.ref b74)]) (rest := [(.ref b65)]) (lenOf pd_26 rfl) rfl (by show 2 * 0 + _ ≤ _; exact Nat.le_of_eq rfl) (hb hby at_133) (fun _ _ => ⟨rfl, e86, (by decide : 4 + 1 ≤ _), (by decide : 11 + 1 ≤ _)⟩)
  dsimp only [Pt.U, Pt.locs, Pt.cells, Pt.slots] at X99 l99 y99 z99 st99 hQ99
  subst l99 y99 z99
  rcases hQ99 with ⟨rfl, N99q, K99, A99, hq99, Fc99, ta99, kb99, Fv99, sz99, g_ta99, V99⟩
  ·skip
   have N99 := Fr.app N86 N99q
   have szk99 : h0.size ≤ ta99 := Nat.le_trans kp95.1 sz99
   have ne_b3_ta99 : b3 ≠ ta99 := Nat.ne_of_lt (Nat.lt_of_lt_of_le fa89.lt sz99)
   have ne_b30_ta99 : b30 ≠ ta99 := Nat.ne_of_lt (Nat.lt_of_lt_of_le fa90.lt sz99)
   have ne_b65_ta99 : b65 ≠ ta99 := Nat.ne_of_lt (Nat.lt_of_lt_of_le fa91.lt sz99)
   have ne_b74_ta99 : b74 ≠ ta99 := Nat.ne_of_lt (Nat.lt_of_lt_of_le fa97.lt sz99)
   have ch100 : CHv Z own_EL s.vm T99.heap := ch87.keep K99 (allS sf87_b65 all0)
   have cr100 : CHr Z own_EL s.vm h0 s.vm T99.heap := cr87.trans (CHr.keep K99 (allS sf87_b65 all0) ch87)
   have sf100_b65 : Safe Z own_EL s.vm T99.heap b65 := Safe.keep K99 (allS sf87_b65 all0) ch87 sf87_b65
   have sf100_b74 : Safe Z own_EL s.vm T99.heap b74 := Safe.keep K99 (allS sf87_b65 all0) ch87 sf87_b74
   have fa101 := fa88.keep K99 (allS g_b65 all0)
   have fa102 := fa89.keep K99 (ninS ne_b3_b65 nin0)
   have fa103 := fa90.keep K99 (ninS ne_b30_b65 nin0)
   have fa104 := fa91.keep K99
   have fa105 := fa97.keep K99 (ninS (Ne.symm ne_b65_b74) nin0)
   have z106 : n0 ≤ T99.heap.size := Nat.le_trans z94 K99.1
   have hk := Nat.le_trans hk K99.1
   have kp107 : Keep h0 T99.heap [] := kp95.trans K99 (allS (Or.inr sz_b65) all0)
   have G108 : ∀ t, Steps p.tables e below (T99.setTop (mkF m 195 #[iv p0, iv p1, iv c0, iv c1, iv c2, iv 1, iv d0, iv d1, iv d2, iv u2, rv b3, rv b30, rv b65, .unset, .unset, .unset] [])) t → Steps p.tables e below (s₁.setTop (entryFrame m #[(.int p0), (.int p1)] maxLocals)) t := by
    intro t kt
    refine G98 _ ?_
    refine st99.trans ?_
    refine XS.astore X99.here hx rfl (hb hby at_136) rfl rfl (l' := #[iv p0, iv p1, iv c0, iv c1, iv c2, iv 1, iv d0, iv d1, iv d2, iv u2, rv b3, rv b30, rv b65, .unset, .unset, .unset]) rfl ?_
    refine XS.goto X99.here hx rfl (pc0 := 138) (pc' := 195) rfl (hb hby at_138) (by decide) (by decide) ?_
    exact kt
   rcases own_at4 hu2' with rfl | rfl | rfl | rfl
   ·skip
    have G109 : ∀ t, Steps p.tables e below (T99.setTop (mkF m 197 #[iv p0, iv p1, iv c0, iv c1, iv c2, iv 1, iv d0, iv d1, iv d2, iv 0, rv b3, rv b30, rv b65, .unset, .unset, .unset] [(.int (0 : Int32))])) t → Steps p.tables e below (s₁.setTop (entryFrame m #[(.int p0), (.int p1)] maxLocals)) t := by
     intro t kt
     refine G108 _ ?_
     refine XS.iload X99.here hx rfl (hb hby at_195) rfl ?_
     exact kt
    obtain ⟨T110, h110, X110, e110, E110, A110, D110, -, st110⟩ := newO X99 hx hZ hown (hq hw 1 rfl) (hq hw 2 rfl) (hq hw 3 rfl) rfl (g := (mkF m 200 #[iv p0, iv p1, iv c0, iv c1, iv c2, iv 1, iv d0, iv d1, iv d2, iv 0, rv b3, rv b30, rv b65, .unset, .unset, .unset] [])) rfl (hb hby at_200) (by decide) (by decide)
    obtain ⟨b110, g110⟩ : ∃ z, z = T99.heap.size := ⟨_, rfl⟩
    rw [← g110] at A110 D110 st110
    have g_b110 : n0 ≤ b110 := Nat.le_trans z106 (Nat.le_of_eq g110.symm)
    have sz_b110 : h0.size ≤ b110 := Nat.le_trans kp107.1 (Nat.le_of_eq g110.symm)
    have ne_b3_b110 : b3 ≠ b110 := Nat.ne_of_lt (Nat.lt_of_lt_of_le fa102.lt (Nat.le_of_eq g110.symm))
    have ne_b30_b110 : b30 ≠ b110 := Nat.ne_of_lt (Nat.lt_of_lt_of_le fa103.lt (Nat.le_of_eq g110.symm))
    have ne_b65_b110 : b65 ≠ b110 := Nat.ne_of_lt (Nat.lt_of_lt_of_le A99.lt (Nat.le_of_eq g110.symm))
    have ne_ta99_b110 : ta99 ≠ b110 := Nat.ne_of_lt (Nat.lt_of_lt_of_le V99.lt (Nat.le_of_eq g110.symm))
    have ch111 : CHv Z own_EL s.vm h110 := ch100.ext E110
    have cr111 : CHr Z own_EL s.vm h0 s.vm h110 := cr100.trans (CHr.ext E110 ch100)
    have sf111_b110 : Safe Z own_EL s.vm h110 b110 := Safe.ext E110 ch100 (Safe.new (Nat.le_of_eq g110.symm))
    have fa112 := fa101.ext E110
    have fa113 := fa102.ext E110
    have fa114 := fa103.ext E110
    have fa115 := A99.ext E110
    have fa116 := V99.ext E110
    have fa117 := Fc99.ext E110
    have fa118 := Fv99.ext E110
    have z119 : n0 ≤ h110.size := Nat.le_trans z106 E110.1
    have hk := Nat.le_trans hk E110.1
    have kp120 : Keep h0 h110 [] := kp107.ext E110
    have fa121 : Fld Z h110 b110 "java/lang/String" "coder" "B" (.int (0 : Int32)) := D110 (Or.inr (hq hw 27 rfl)) (ty := .byte) (by decide)
    have fa122 : Fld Z h110 b110 "java/lang/String" "value" "[B" .null := D110 (Or.inr (hq hw 29 rfl)) (ty := (.array .byte)) (by decide)
    obtain ⟨T123, h123, k123, X123, e123, E123, A123, st123⟩ := newP X110 hx hZ (hq hw 0 rfl) e110 (g := (mkF m 205 #[iv p0, iv p1, iv c0, iv c1, iv c2, iv 1, iv d0, iv d1, iv d2, iv 0, rv b3, rv b30, rv b65, .unset, .unset, .unset] [(.int (0 : Int32)), (.ref b110), (.ref b110)])) rfl (hb hby at_205) rfl (by decide) (cap := 0) (by decide) (by decide) (by decide) (by decide)
    obtain ⟨b123, g123⟩ : ∃ z, z = h110.size := ⟨_, rfl⟩
    rw [← g123] at A123 st123
    have g_b123 : n0 ≤ b123 := Nat.le_trans z119 (Nat.le_of_eq g123.symm)
    have sz_b123 : h0.size ≤ b123 := Nat.le_trans kp120.1 (Nat.le_of_eq g123.symm)
    have ne_b3_b123 : b3 ≠ b123 := Nat.ne_of_lt (Nat.lt_of_lt_of_le fa113.lt (Nat.le_of_eq g123.symm))
    have ne_b30_b123 : b30 ≠ b123 := Nat.ne_of_lt (Nat.lt_of_lt_of_le fa114.lt (Nat.le_of_eq g123.symm))
    have ne_b65_b123 : b65 ≠ b123 := Nat.ne_of_lt (Nat.lt_of_lt_of_le fa115.lt (Nat.le_of_eq g123.symm))
    have ne_ta99_b123 : ta99 ≠ b123 := Nat.ne_of_lt (Nat.lt_of_lt_of_le fa116.lt (Nat.le_of_eq g123.symm))
    have ne_b110_b123 : b110 ≠ b123 := Nat.ne_of_lt (Nat.lt_of_lt_of_le A110.lt (Nat.le_of_eq g123.symm))
    have ch124 : CHv Z own_EL s.vm h123 := ch111.ext E123
    have cr124 : CHr Z own_EL s.vm h0 s.vm h123 := cr111.trans (CHr.ext E123 ch111)
    have sf124_b110 : Safe Z own_EL s.vm h123 b110 := Safe.ext E123 ch111 sf111_b110
    have sf124_b123 : Safe Z own_EL s.vm h123 b123 := Safe.ext E123 ch111 (Safe.new (Nat.le_of_eq g123.symm))
    have fa125 := fa112.ext E123
    have fa126 := fa113.ext E123
    have fa127 := fa114.ext E123
    have fa128 := fa115.ext E123
    have fa129 := fa116.ext E123
    have fa130 := fa117.ext E123
    have fa131 := fa118.ext E123
    have fa132 := A110.ext E123
    have fa133 := fa121.ext E123
    have fa134 := fa122.ext E123
    have z135 : n0 ≤ h123.size := Nat.le_trans z119 E123.1
    have hk := Nat.le_trans hk E123.1
    have kp136 : Keep h0 h123 [] := kp120.ext E123
    have fa137 : Arv Z h123 b123 k123 .char (0 : Int32) [] (.int (0 : Int32)) := (Arv.new A123 (by decide)).pad (pad_rep [] (.int (0 : Int32)) 0)
    have G138 : ∀ t, Steps p.tables e below (T123.setTop (mkF m 207 #[iv p0, iv p1, iv c0, iv c1, iv c2, iv 1, iv d0, iv d1, iv d2, iv 0, rv b3, rv b30, rv b65, .unset, .unset, .unset] [(.ref b123), (.ref b110), (.ref b110)])) t → Steps p.tables e below (s₁.setTop (entryFrame m #[(.int p0), (.int p1)] maxLocals)) t := by
     intro t kt
     refine G109 _ ?_
     refine XS.ifNo X99.here hx rfl (hb hby at_197) rfl ((if0 _ _).trans (teq (by decide)).2) ?_
     refine st110 _ ?_
     show Steps p.tables e below (T110.setTop (mkF m 203 #[iv p0, iv p1, iv c0, iv c1, iv c2, iv 1, iv d0, iv d1, iv d2, iv 0, rv b3, rv b30, rv b65, .unset, .unset, .unset] [(.ref b110)])) _
     refine XS.dup X110.here hx rfl (hb hby at_203) rfl rfl ?_
     refine XS.iconst X110.here hx rfl (hb hby at_204) ?_
     refine st123 _ ?_
     exact kt
    obtain ⟨_, vm139, ⟨T139, L139, k139, n139⟩, -, X139, hS139, gr139, ⟨Lc139, hQ139, l139, y139, z139, C139⟩, st139⟩ := X123.specialBackS hx (y := (⟨"java/lang/String", "<init>", "([C)V"⟩ : MethodName)) rfl hown (mvT hZ (hq hw 4 rfl)) (mvT hZ (hq hw 5 rfl)) (mvT hZ (hq hw 6 rfl)) (by decide) (backOfSH (s := s) (vm0 := s.vm) (W := 1) (rmSF_0 l Z a0 hw [] b110 b123 k123 h123 n0 z135 fa132 fa134 fa133 fa137 g_b110 ne_b110_b123) hZ (hq hw 6 rfl) (hq hw 3 rfl) (by decide) (by decide) hEL ch124) (g := (mkF m 207 #[iv p0, iv p1, iv c0, iv c1, iv c2, iv 1, iv d0, iv d1, iv d2, iv 0, rv b3, rv b30, rv b65, .unset, .unset, .unset] [(.ref b123), (.ref b110), (.ref b110)])) rfl (by rw [hml]; rfl) (Steps.refl _) (a := b110) (argsL := [(.ref b123)]) (rest := [(.ref b110)]) (lenOf pd_26 rfl) rfl (by show 2 * 0 + _ ≤ _; exact Nat.le_of_eq rfl) (hb hby at_207) (fun _ _ => ⟨rfl, e123, (by decide : 7 + 4 ≤ _), (by decide : 16 + 8 ≤ _)⟩)
    dsimp only [Pt.U, Pt.locs, Pt.cells, Pt.slots] at X139 l139 y139 z139 st139 hQ139 hS139 gr139 C139
    subst l139 y139 z139
    have hS := hS.trans hS139 (Nat.le_trans hk (by rw [← show T123.heap = h123 from e123]; exact gr139))
    have hZ : Z.Warmed39 (s.setVm T139.vm).vm := State.Warmed39.trans hZ hS139.1
    have hown : (s.setVm T139.vm).vm.findClass "com/example/fides/fides/RecordIdToStringPinLaw" = some m.cls := by rw [show (s.setVm T139.vm).vm = T139.vm from rfl, hS139.1.alike.findClass]; exact hown
    have X139 : Stand p l e room_1 (s.setVm T139.vm) m #[(.int p0), (.int p1)] below meth c T139 _ _ _ := X139
    have hk : T139.heap.size ≤ T139.heap.size := Nat.le_refl _
    have cr140 := cr124.trans C139
    have ch140 := C139.1
    have sf140_b110 := C139.safe fa132.lt sf124_b110
    have sf140_b123 := C139.safe fa137.lt sf124_b123
    obtain ⟨rfl, N139q, K139, A139, Fc139, ta139, kb139, Fv139, V139⟩ := hQ139
    have N139 := Fr.app N99 N139q
    have fa141 := fa125.keep K139 (allS g_b110 all0)
    have fa142 := fa126.keep K139 (ninS ne_b3_b110 nin0)
    have fa143 := fa127.keep K139 (ninS ne_b30_b110 nin0)
    have fa144 := fa128.keep K139
    have fa145 := fa129.keep K139 (ninS ne_ta99_b110 nin0)
    have fa146 := fa130.keep K139 (ninS ne_b65_b110 nin0)
    have fa147 := fa131.keep K139 (ninS ne_b65_b110 nin0)
    have fa148 := fa132.keep K139
    have fa149 := fa137.keep K139 (ninS (Ne.symm ne_b110_b123) nin0)
    have z150 : n0 ≤ T139.heap.size := Nat.le_trans z135 K139.1
    have kp151 : Keep h0 T139.heap [] := kp136.trans K139 (allS (Or.inr sz_b110) all0)
    obtain ⟨T152, h152, X152, e152, E152, A152, D152, -, st152⟩ := newO X139 hx hZ hown (hq hw 33 rfl) (hq hw 34 rfl) (hq hw 35 rfl) rfl (g := (mkF m 299 #[iv p0, iv p1, iv c0, iv c1, iv c2, iv 1, iv d0, iv d1, iv d2, iv 0, rv b3, rv b30, rv b65, rv b110, .unset, .unset] [])) rfl (hb hby at_299) (by decide) (by decide)
    obtain ⟨b152, g152⟩ : ∃ z, z = T139.heap.size := ⟨_, rfl⟩
    rw [← g152] at A152 D152 st152
    have g_b152 : n0 ≤ b152 := Nat.le_trans z150 (Nat.le_of_eq g152.symm)
    have sz_b152 : h0.size ≤ b152 := Nat.le_trans kp151.1 (Nat.le_of_eq g152.symm)
    have ne_b3_b152 : b3 ≠ b152 := Nat.ne_of_lt (Nat.lt_of_lt_of_le fa142.lt (Nat.le_of_eq g152.symm))
    have ne_b30_b152 : b30 ≠ b152 := Nat.ne_of_lt (Nat.lt_of_lt_of_le fa143.lt (Nat.le_of_eq g152.symm))
    have ne_b65_b152 : b65 ≠ b152 := Nat.ne_of_lt (Nat.lt_of_lt_of_le fa144.lt (Nat.le_of_eq g152.symm))
    have ne_ta99_b152 : ta99 ≠ b152 := Nat.ne_of_lt (Nat.lt_of_lt_of_le fa145.lt (Nat.le_of_eq g152.symm))
    have ne_b110_b152 : b110 ≠ b152 := Nat.ne_of_lt (Nat.lt_of_lt_of_le A139.lt (Nat.le_of_eq g152.symm))
    have ne_ta139_b152 : ta139 ≠ b152 := Nat.ne_of_lt (Nat.lt_of_lt_of_le V139.lt (Nat.le_of_eq g152.symm))
    have ch153 : CHv Z own_EL T139.vm h152 := ch140.ext E152
    have cr153 : CHr Z own_EL s.vm h0 T139.vm h152 := cr140.trans (CHr.ext E152 ch140)
    have sf153_b152 : Safe Z own_EL T139.vm h152 b152 := Safe.ext E152 ch140 (Safe.new (Nat.le_of_eq g152.symm))
    have fa154 := fa141.ext E152
    have fa155 := fa142.ext E152
    have fa156 := fa143.ext E152
    have fa157 := fa144.ext E152
    have fa158 := fa145.ext E152
    have fa159 := fa146.ext E152
    have fa160 := fa147.ext E152
    have fa161 := A139.ext E152
    have fa162 := Fc139.ext E152
    have fa163 := Fv139.ext E152
    have fa164 := V139.ext E152
    have z165 : n0 ≤ h152.size := Nat.le_trans z150 E152.1
    have hk := Nat.le_trans hk E152.1
    have kp166 : Keep h0 h152 [] := kp151.ext E152
    have fa167 : Fld Z h152 b152 "com/example/fides/fides/RecordId" "table" "Ljava/lang/String;" .null := D152 (Or.inr (hq hw 57 rfl)) (ty := (.object "java/lang/String")) (by decide)
    have fa168 : Fld Z h152 b152 "com/example/fides/fides/RecordId" "key" "Ljava/lang/String;" .null := D152 (Or.inr (hq hw 59 rfl)) (ty := (.object "java/lang/String")) (by decide)
    have G169 : ∀ t, Steps p.tables e below (T152.setTop (mkF m 307 #[iv p0, iv p1, iv c0, iv c1, iv c2, iv 1, iv d0, iv d1, iv d2, iv 0, rv b3, rv b30, rv b65, rv b110, .unset, .unset] [(.ref b110), (.ref b65), (.ref b152), (.ref b152)])) t → Steps p.tables e below (s₁.setTop (entryFrame m #[(.int p0), (.int p1)] maxLocals)) t := by
     intro t kt
     refine G138 _ ?_
     refine st139.trans ?_
     refine XS.astore X139.here hx rfl (hb hby at_210) rfl rfl (l' := #[iv p0, iv p1, iv c0, iv c1, iv c2, iv 1, iv d0, iv d1, iv d2, iv 0, rv b3, rv b30, rv b65, rv b110, .unset, .unset]) rfl ?_
     refine XS.goto X139.here hx rfl (pc0 := 212) (pc' := 299) rfl (hb hby at_212) (by decide) (by decide) ?_
     refine st152 _ ?_
     refine XS.dup X152.here hx rfl (hb hby at_302) rfl rfl ?_
     refine XS.aload X152.here hx rfl (hb hby at_303) rfl rfl ?_
     refine XS.aload X152.here hx rfl (hb hby at_305) rfl rfl ?_
     exact kt
    obtain ⟨_, vm170, ⟨T170, L170, k170, n170⟩, -, X170, hS170, gr170, ⟨Lc170, hQ170, l170, y170, z170, C170⟩, st170⟩ := X152.specialBackS hx (y := (⟨"com/example/fides/fides/RecordId", "<init>", "(Ljava/lang/String;Ljava/lang/String;)V"⟩ : MethodName)) rfl hown (mvT hZ (hq hw 36 rfl)) (mvT hZ (hq hw 37 rfl)) (mvT hZ (hq hw 38 rfl)) (by decide) (backOfSH (s := s) (vm0 := T139.vm) (W := 1) (rm7 l Z a0 hw [] b152 b65 b110 ta99 kb99 (1 : Int32) [(.int (nar .byte (c0.toInt8.toInt32)))] h152 n0 z165 A152 fa167 fa168 fa157 fa160 fa158 g_b152 (Ne.symm ne_b65_b152) (Ne.symm ne_ta99_b152) (by decide)) hZ (hq hw 38 rfl) (hq hw 35 rfl) (by decide) (by decide) hEL ch153) (g := (mkF m 307 #[iv p0, iv p1, iv c0, iv c1, iv c2, iv 1, iv d0, iv d1, iv d2, iv 0, rv b3, rv b30, rv b65, rv b110, .unset, .unset] [(.ref b110), (.ref b65), (.ref b152), (.ref b152)])) rfl (by rw [hml]; rfl) (Steps.refl _) (a := b152) (argsL := [(.ref b65), (.ref b110)]) (rest := [(.ref b152)]) (lenOf pd_27 rfl) rfl (by show 2 * 0 + _ ≤ _; exact Nat.le_of_eq rfl) (hb hby at_307) (fun _ _ => ⟨rfl, e152, (by decide : 12 + 4 ≤ _), (by decide : 26 + 40 ≤ _)⟩)
    dsimp only [Pt.U, Pt.locs, Pt.cells, Pt.slots] at X170 l170 y170 z170 st170 hQ170 hS170 gr170 C170
    subst l170 y170 z170
    have hS := hS.trans hS170 (Nat.le_trans hk (by rw [← show T152.heap = h152 from e152]; exact gr170))
    have hZ : Z.Warmed39 (s.setVm T170.vm).vm := State.Warmed39.trans hZ hS170.1
    have hown : (s.setVm T170.vm).vm.findClass "com/example/fides/fides/RecordIdToStringPinLaw" = some m.cls := by rw [show (s.setVm T170.vm).vm = T170.vm from rfl, hS170.1.alike.findClass]; exact hown
    have X170 : Stand p l e room_1 (s.setVm T170.vm) m #[(.int p0), (.int p1)] below meth c T170 _ _ _ := X170
    have hk : T170.heap.size ≤ T170.heap.size := Nat.le_refl _
    have cr171 := cr153.trans C170
    have ch171 := C170.1
    have sf171_b152 := C170.safe A152.lt sf153_b152
    obtain ⟨rfl, N170q, K170, Ft170, Fk170⟩ := hQ170
    have N170 := Fr.app N139 N170q
    have fa172 := fa154.keep K170 (allS g_b152 all0)
    have fa173 := fa155.keep K170 (ninS ne_b3_b152 nin0)
    have fa174 := fa156.keep K170 (ninS ne_b30_b152 nin0)
    have fa175 := fa157.keep K170
    have fa176 := fa158.keep K170 (ninS ne_ta99_b152 nin0)
    have fa177 := fa159.keep K170 (ninS ne_b65_b152 nin0)
    have fa178 := fa160.keep K170 (ninS ne_b65_b152 nin0)
    have fa179 := fa161.keep K170
    have fa180 := fa162.keep K170 (ninS ne_b110_b152 nin0)
    have fa181 := fa163.keep K170 (ninS ne_b110_b152 nin0)
    have fa182 := fa164.keep K170 (ninS ne_ta139_b152 nin0)
    have fa183 := A152.keep K170
    have z184 : n0 ≤ T170.heap.size := Nat.le_trans z165 K170.1
    have kp185 : Keep h0 T170.heap [] := kp166.trans K170 (allS (Or.inr sz_b152) all0)
    have G186 : ∀ t, Steps p.tables e below (T170.setTop (mkF m 310 #[iv p0, iv p1, iv c0, iv c1, iv c2, iv 1, iv d0, iv d1, iv d2, iv 0, rv b3, rv b30, rv b65, rv b110, .unset, .unset] [(.ref b152)])) t → Steps p.tables e below (s₁.setTop (entryFrame m #[(.int p0), (.int p1)] maxLocals)) t := by
     intro t kt
     refine G169 _ ?_
     refine st170.trans ?_
     exact kt
    obtain ⟨cq187, kq187, q187a, q187b, q187c⟩ := isOf hZ rfl fa183
    obtain ⟨_, vm187, ⟨T187, L187, k187, n187⟩, -, X187, hS187, gr187, ⟨Lc187, hQ187, l187, y187, z187, C187⟩, st187⟩ := X170.virtualBackS hx (y := (⟨"com/example/fides/fides/RecordId", "toString", "()Ljava/lang/String;"⟩ : MethodName)) (z := (⟨"com/example/fides/fides/RecordId", "toString", "()Ljava/lang/String;"⟩ : MethodName)) hown (mvT hZ (hq hw 60 rfl)) (mvT hZ (hq hw 61 rfl)) (notFace_of_selects (args := #[]) (mvT hZ (hq hw 63 rfl))) (mvT hZ (hq hw 63 rfl)) (mvT hZ (hq hw 62 rfl)) (by decide) (backOfSH (s := s) (vm0 := T170.vm) (W := 0) (rm11 l Z a0 hw [] b152 b65 ta99 kb99 (1 : Int32) [(.int (nar .byte (c0.toInt8.toInt32)))] b110 ta139 kb139 (0 : Int32) [] (2 : Int32) [(.int (nar .byte (c0.toInt8.toInt32))), (.int (47 : Int32))] cst fv T170.heap n0 z184 Ft170 Fk170 fa175 fa177 fa178 fa176 fa179 fa180 fa181 fa182 fa172 (by decide) (own_mkok (by decide) (by decide) (by decide) (by decide) (Nat.le_of_ble_eq_true rfl)) (by decide) (own_mkok (by decide) (by decide) (by decide) (by decide) (Nat.le_of_ble_eq_true rfl)) (by decide) (own_mkok (by decide) (by decide) (by decide) (by decide) (Nat.le_of_ble_eq_true rfl)) (own_cr2) (by decide) rfl SS) hZ (hq hw 64 rfl) (hq hw 35 rfl) (by decide) (by decide) hEL ch171) q187a q187c (g := (mkF m 310 #[iv p0, iv p1, iv c0, iv c1, iv c2, iv 1, iv d0, iv d1, iv d2, iv 0, rv b3, rv b30, rv b65, rv b110, .unset, .unset] [(.ref b152)])) rfl (by rw [hml]; rfl) (Steps.refl _) (argsL := []) (rest := []) (lenOf pd_23 rfl) rfl (by show 2 * 0 + _ ≤ _; exact Nat.le_of_eq rfl) (hb hby at_310) (fun _ _ => ⟨rfl, rfl, (by decide : 16 + 6 ≤ _), (by decide : 66 + 40 ≤ _)⟩)
    dsimp only [Pt.U, Pt.locs, Pt.cells, Pt.slots] at X187 l187 y187 z187 st187 hQ187 hS187 gr187 C187
    subst l187 y187 z187
    have hS := hS.trans hS187 (Nat.le_trans hk (by rw [← show T170.heap = T170.heap from rfl]; exact gr187))
    have hZ : Z.Warmed39 (s.setVm T187.vm).vm := State.Warmed39.trans hZ hS187.1
    have hown : (s.setVm T187.vm).vm.findClass "com/example/fides/fides/RecordIdToStringPinLaw" = some m.cls := by rw [show (s.setVm T187.vm).vm = T187.vm from rfl, hS187.1.alike.findClass]; exact hown
    have X187 : Stand p l e room_1 (s.setVm T187.vm) m #[(.int p0), (.int p1)] below meth c T187 _ _ _ := X187
    have hk : T187.heap.size ≤ T187.heap.size := Nat.le_refl _
    have cr188 := cr171.trans C187
    have ch188 := C187.1
    have sf188_b152 := C187.safe fa183.lt sf171_b152
    obtain ⟨s187, t187, kb187, rfl, N187q, K187, A187, Fc187, Fv187, V187⟩ := hQ187
    have N187 := Fr.app N170 N187q
    have fa189 := fa172.keep K187 all0
    have fa190 := fa173.keep K187 nin0
    have fa191 := fa174.keep K187 nin0
    have fa192 := fa175.keep K187
    have fa193 := fa176.keep K187 nin0
    have fa194 := fa177.keep K187 nin0
    have fa195 := fa178.keep K187 nin0
    have fa196 := fa179.keep K187
    have fa197 := fa180.keep K187 nin0
    have fa198 := fa181.keep K187 nin0
    have fa199 := fa182.keep K187 nin0
    have fa200 := fa183.keep K187
    have fa201 := Ft170.keep K187 nin0
    have fa202 := Fk170.keep K187 nin0
    have z203 : n0 ≤ T187.heap.size := Nat.le_trans z184 K187.1
    have kp204 : Keep h0 T187.heap [] := kp185.trans K187 all0
    have G205 : ∀ t, Steps p.tables e below (T187.setTop (mkF m 324 #[iv p0, iv p1, iv c0, iv c1, iv c2, iv 1, iv d0, iv d1, iv d2, iv 0, rv b3, rv b30, rv b65, rv b110, rv s187, iv 2] [])) t → Steps p.tables e below (s₁.setTop (entryFrame m #[(.int p0), (.int p1)] maxLocals)) t := by
     intro t kt
     refine G186 _ ?_
     refine st187.trans ?_
     refine XS.astore X187.here hx rfl (hb hby at_313) rfl rfl (l' := #[iv p0, iv p1, iv c0, iv c1, iv c2, iv 1, iv d0, iv d1, iv d2, iv 0, rv b3, rv b30, rv b65, rv b110, rv s187, .unset]) rfl ?_
     refine XS.iload X187.here hx rfl (hb hby at_315) rfl ?_
     refine XS.iconst X187.here hx rfl (hb hby at_317) ?_
     refine XS.iadd X187.here hx rfl (hb hby at_318) rfl ?_
     refine XS.iload X187.here hx rfl (hb hby at_319) rfl ?_
     refine XS.iadd X187.here hx rfl (hb hby at_321) rfl ?_
     refine XS.istore X187.here hx rfl (hb hby at_322) rfl (l' := #[iv p0, iv p1, iv c0, iv c1, iv c2, iv 1, iv d0, iv d1, iv d2, iv 0, rv b3, rv b30, rv b65, rv b110, rv s187, iv 2]) rfl ?_
     exact kt
    obtain ⟨T206, L206, X206, e206, N206, K206⟩ := own_tail (l := l) (Z := Z) (a0 := a0) (iv p0) (iv p1) (iv c0) (iv c1) (iv c2) (iv d0) (iv d1) (iv d2) (iv 0) (rv b65) (rv b110) (1 : Int32) (2 : Int32) b3 b30 s187 t187 kb187 (2 : Int32) [(.int (nar .byte (c0.toInt8.toInt32))), (.int (47 : Int32))] k3 (3 : Int32) [(.int c0), (.int c1), (.int c2)] k30 (3 : Int32) [(.int d0), (.int d1), (.int d2)] cst fv X187 hx hZ hw hby hml hown rfl N187 z203 A187 Fc187 Fv187 V187 fa190 fa191 fa189 (by decide) (by decide) (by decide) (own_atT (xx := (nar .byte (c0.toInt8.toInt32))) (cc := c0) (by decide) (by decide) (by decide) rfl (own_lat c0 hb_c0 hp_c0) (by decide) rfl (by decide)) (own_atM (xx := (47 : Int32)) (by decide) (by decide) (by decide) rfl (by decide) (by decide) (by decide)) (own_atD (by decide)) (own_atD (by decide)) (own_atD (by decide)) (own_atD (by decide)) (own_atD (by decide)) SS
    have G207 : ∀ t, Steps p.tables e below (T206.setTop (mkF m 461 #[iv p0, iv p1, iv c0, iv c1, iv c2, iv 1, iv d0, iv d1, iv d2, iv 0, rv b3, rv b30, rv b65, rv b110, rv s187, iv 2] [])) t → Steps p.tables e below (s₁.setTop (entryFrame m #[(.int p0), (.int p1)] maxLocals)) t := fun t kt => G205 t (K206 t kt)
    obtain ⟨fs, hr, hrun, hended, hRW⟩ := X206.leaveW (s := s) hS (by rw [show T206.heap = T187.heap from e206]; exact hk) (v := some (.int (1 : Int32))) (fun h => by rw [Bd.returns] at h; cases h) (BodyLoose.notSynchronized Bd)
    refine ⟨_, _, G207 _ ?_, hrun, hended, _, _, rfl, ?_, hRW.1, hRW.2.1, hRW.2.2.1, hRW.2.2.2.mono (by decide) (by decide)⟩
    ·skip
     refine XS.iconst X206.here hx rfl (hb hby at_461) ?_
     show Steps p.tables e below (T206.setTop (mkF m 462 #[iv p0, iv p1, iv c0, iv c1, iv c2, iv 1, iv d0, iv d1, iv d2, iv 0, rv b3, rv b30, rv b65, rv b110, rv s187, iv 2] [(.int (1 : Int32))])) _
     refine XS.goto X206.here hx rfl (pc0 := 462) (pc' := 466) rfl (hb hby at_462) (by decide) (by decide) ?_
     exact retN X206 hx (t := .boolean) Bd.returns (by simp) (hb hby at_466) hr
    ·show Q0 Z p0 p1 cst fv h0 n0 _ T206.heap _
     rw [e206]
     exact ⟨rfl, N206⟩
   ·skip
    have G208 : ∀ t, Steps p.tables e below (T99.setTop (mkF m 197 #[iv p0, iv p1, iv c0, iv c1, iv c2, iv 1, iv d0, iv d1, iv d2, iv 1, rv b3, rv b30, rv b65, .unset, .unset, .unset] [(.int (1 : Int32))])) t → Steps p.tables e below (s₁.setTop (entryFrame m #[(.int p0), (.int p1)] maxLocals)) t := by
     intro t kt
     refine G108 _ ?_
     refine XS.iload X99.here hx rfl (hb hby at_195) rfl ?_
     exact kt
    have G209 : ∀ t, Steps p.tables e below (T99.setTop (mkF m 218 #[iv p0, iv p1, iv c0, iv c1, iv c2, iv 1, iv d0, iv d1, iv d2, iv 1, rv b3, rv b30, rv b65, .unset, .unset, .unset] [(.int (1 : Int32)), (.int (1 : Int32))])) t → Steps p.tables e below (s₁.setTop (entryFrame m #[(.int p0), (.int p1)] maxLocals)) t := by
     intro t kt
     refine G208 _ ?_
     refine XS.ifYes X99.here hx rfl (pc0 := 197) (pc' := 215) rfl (hb hby at_197) rfl ((if0 _ _).trans (feq (by decide)).2) (by decide) (by decide) ?_
     refine XS.iload X99.here hx rfl (hb hby at_215) rfl ?_
     show Steps p.tables e below (T99.setTop (mkF m 217 #[iv p0, iv p1, iv c0, iv c1, iv c2, iv 1, iv d0, iv d1, iv d2, iv 1, rv b3, rv b30, rv b65, .unset, .unset, .unset] [(.int (1 : Int32))])) _
     refine XS.iconst X99.here hx rfl (hb hby at_217) ?_
     exact kt
    obtain ⟨T210, h210, X210, e210, E210, A210, D210, -, st210⟩ := newO X99 hx hZ hown (hq hw 1 rfl) (hq hw 2 rfl) (hq hw 3 rfl) rfl (g := (mkF m 221 #[iv p0, iv p1, iv c0, iv c1, iv c2, iv 1, iv d0, iv d1, iv d2, iv 1, rv b3, rv b30, rv b65, .unset, .unset, .unset] [])) rfl (hb hby at_221) (by decide) (by decide)
    obtain ⟨b210, g210⟩ : ∃ z, z = T99.heap.size := ⟨_, rfl⟩
    rw [← g210] at A210 D210 st210
    have g_b210 : n0 ≤ b210 := Nat.le_trans z106 (Nat.le_of_eq g210.symm)
    have sz_b210 : h0.size ≤ b210 := Nat.le_trans kp107.1 (Nat.le_of_eq g210.symm)
    have ne_b3_b210 : b3 ≠ b210 := Nat.ne_of_lt (Nat.lt_of_lt_of_le fa102.lt (Nat.le_of_eq g210.symm))
    have ne_b30_b210 : b30 ≠ b210 := Nat.ne_of_lt (Nat.lt_of_lt_of_le fa103.lt (Nat.le_of_eq g210.symm))
    have ne_b65_b210 : b65 ≠ b210 := Nat.ne_of_lt (Nat.lt_of_lt_of_le A99.lt (Nat.le_of_eq g210.symm))
    have ne_ta99_b210 : ta99 ≠ b210 := Nat.ne_of_lt (Nat.lt_of_lt_of_le V99.lt (Nat.le_of_eq g210.symm))
    have ch211 : CHv Z own_EL s.vm h210 := ch100.ext E210
    have cr211 : CHr Z own_EL s.vm h0 s.vm h210 := cr100.trans (CHr.ext E210 ch100)
    have sf211_b210 : Safe Z own_EL s.vm h210 b210 := Safe.ext E210 ch100 (Safe.new (Nat.le_of_eq g210.symm))
    have fa212 := fa101.ext E210
    have fa213 := fa102.ext E210
    have fa214 := fa103.ext E210
    have fa215 := A99.ext E210
    have fa216 := V99.ext E210
    have fa217 := Fc99.ext E210
    have fa218 := Fv99.ext E210
    have z219 : n0 ≤ h210.size := Nat.le_trans z106 E210.1
    have hk := Nat.le_trans hk E210.1
    have kp220 : Keep h0 h210 [] := kp107.ext E210
    have fa221 : Fld Z h210 b210 "java/lang/String" "coder" "B" (.int (0 : Int32)) := D210 (Or.inr (hq hw 27 rfl)) (ty := .byte) (by decide)
    have fa222 : Fld Z h210 b210 "java/lang/String" "value" "[B" .null := D210 (Or.inr (hq hw 29 rfl)) (ty := (.array .byte)) (by decide)
    obtain ⟨T223, h223, k223, X223, e223, E223, A223, st223⟩ := newP X210 hx hZ (hq hw 0 rfl) e210 (g := (mkF m 226 #[iv p0, iv p1, iv c0, iv c1, iv c2, iv 1, iv d0, iv d1, iv d2, iv 1, rv b3, rv b30, rv b65, .unset, .unset, .unset] [(.int (1 : Int32)), (.ref b210), (.ref b210)])) rfl (hb hby at_226) rfl (by decide) (cap := 1) (by decide) (by decide) (by decide) (by decide)
    obtain ⟨b223, g223⟩ : ∃ z, z = h210.size := ⟨_, rfl⟩
    rw [← g223] at A223 st223
    have g_b223 : n0 ≤ b223 := Nat.le_trans z219 (Nat.le_of_eq g223.symm)
    have sz_b223 : h0.size ≤ b223 := Nat.le_trans kp220.1 (Nat.le_of_eq g223.symm)
    have ne_b3_b223 : b3 ≠ b223 := Nat.ne_of_lt (Nat.lt_of_lt_of_le fa213.lt (Nat.le_of_eq g223.symm))
    have ne_b30_b223 : b30 ≠ b223 := Nat.ne_of_lt (Nat.lt_of_lt_of_le fa214.lt (Nat.le_of_eq g223.symm))
    have ne_b65_b223 : b65 ≠ b223 := Nat.ne_of_lt (Nat.lt_of_lt_of_le fa215.lt (Nat.le_of_eq g223.symm))
    have ne_ta99_b223 : ta99 ≠ b223 := Nat.ne_of_lt (Nat.lt_of_lt_of_le fa216.lt (Nat.le_of_eq g223.symm))
    have ne_b210_b223 : b210 ≠ b223 := Nat.ne_of_lt (Nat.lt_of_lt_of_le A210.lt (Nat.le_of_eq g223.symm))
    have ch224 : CHv Z own_EL s.vm h223 := ch211.ext E223
    have cr224 : CHr Z own_EL s.vm h0 s.vm h223 := cr211.trans (CHr.ext E223 ch211)
    have sf224_b210 : Safe Z own_EL s.vm h223 b210 := Safe.ext E223 ch211 sf211_b210
    have sf224_b223 : Safe Z own_EL s.vm h223 b223 := Safe.ext E223 ch211 (Safe.new (Nat.le_of_eq g223.symm))
    have fa225 := fa212.ext E223
    have fa226 := fa213.ext E223
    have fa227 := fa214.ext E223
    have fa228 := fa215.ext E223
    have fa229 := fa216.ext E223
    have fa230 := fa217.ext E223
    have fa231 := fa218.ext E223
    have fa232 := A210.ext E223
    have fa233 := fa221.ext E223
    have fa234 := fa222.ext E223
    have z235 : n0 ≤ h223.size := Nat.le_trans z219 E223.1
    have hk := Nat.le_trans hk E223.1
    have kp236 : Keep h0 h223 [] := kp220.ext E223
    have fa237 : Arv Z h223 b223 k223 .char (1 : Int32) [(.int (0 : Int32))] (.int (0 : Int32)) := (Arv.new A223 (by decide)).pad (pad_rep [] (.int (0 : Int32)) 1)
    obtain ⟨cl238, Ar238, q238, S238, M238, H238, G238⟩ := id fa237
    have hin238 : ¬ ((0 : Int32) < 0 ∨ cl238.slots.size ≤ ((0 : Int32)).toNatClampNeg) := inb_of S238 ⟨by decide, by decide⟩
    obtain ⟨T239, h239, X239, e239, W239, st239⟩ := stC X223 hx hZ e223 Ar238 (j := (0 : Int32)) hin238 (g := (mkF m 232 #[iv p0, iv p1, iv c0, iv c1, iv c2, iv 1, iv d0, iv d1, iv d2, iv 1, rv b3, rv b30, rv b65, .unset, .unset, .unset] [(.int d0), (.int (0 : Int32)), (.ref b223), (.ref b223), (.ref b210), (.ref b210)])) rfl rfl (hb hby at_232)
    have ch240 : CHv Z own_EL s.vm h239 := ch224.wr W239 sf224_b223
    have cr240 : CHr Z own_EL s.vm h0 s.vm h239 := cr224.trans (CHr.wr W239 sf224_b223 ch224)
    have sf240_b210 : Safe Z own_EL s.vm h239 b210 := Safe.wr W239 sf224_b223 ch224 sf224_b210
    have sf240_b223 : Safe Z own_EL s.vm h239 b223 := Safe.wr W239 sf224_b223 ch224 sf224_b223
    have fa241 := fa225.wr W239 g_b223
    have fa242 := fa226.other W239 ne_b3_b223
    have fa243 := fa227.other W239 ne_b30_b223
    have fa244 := fa228.wr W239
    have fa245 := fa229.other W239 ne_ta99_b223
    have fa246 := fa230.other W239 (Or.inl ne_b65_b223)
    have fa247 := fa231.other W239 (Or.inl ne_b65_b223)
    have fa248 := fa232.wr W239
    have fa249 := fa233.other W239 (Or.inl ne_b210_b223)
    have fa250 := fa234.other W239 (Or.inl ne_b210_b223)
    have z251 : n0 ≤ h239.size := Nat.le_trans z235 (Nat.le_of_eq W239.size.symm)
    have hk := Nat.le_trans hk (Nat.le_of_eq W239.size.symm)
    have kp252 : Keep h0 h239 [] := kp236.wr W239 (Or.inr sz_b223)
    have fa253 : Arv Z h239 b223 k223 .char (1 : Int32) [(.int (nar .char d0))] (.int (0 : Int32)) := Arv.set Ar238 q238 S238 M238 H238 G238 (fits_nar_char _) W239 0 rfl (Nat.le_of_ble_eq_true rfl)
    have N239 := Fr.snoc X239 N99 g_b223
    have fa254 : Arv Z h239 b223 k223 .char (1 : Int32) [(.int d0)] (.int (0 : Int32)) := by have q := fa253; rw [own_narc d0 hb_d0] at q; exact q
    have G255 : ∀ t, Steps p.tables e below (T239.setTop (mkF m 233 #[iv p0, iv p1, iv c0, iv c1, iv c2, iv 1, iv d0, iv d1, iv d2, iv 1, rv b3, rv b30, rv b65, .unset, .unset, .unset] [(.ref b223), (.ref b210), (.ref b210)])) t → Steps p.tables e below (s₁.setTop (entryFrame m #[(.int p0), (.int p1)] maxLocals)) t := by
     intro t kt
     refine G209 _ ?_
     refine XS.icmpNo X99.here hx rfl (hb hby at_218) rfl (teq (by decide)).2 ?_
     refine st210 _ ?_
     refine XS.dup X210.here hx rfl (hb hby at_224) rfl rfl ?_
     refine XS.iconst X210.here hx rfl (hb hby at_225) ?_
     refine st223 _ ?_
     refine XS.dup X223.here hx rfl (hb hby at_228) rfl rfl ?_
     refine XS.iconst X223.here hx rfl (hb hby at_229) ?_
     refine XS.iload X223.here hx rfl (hb hby at_230) rfl ?_
     refine st239 _ ?_
     exact kt
    obtain ⟨_, _, ⟨T256, L256, k256, n256⟩, -, X256, ⟨Lc256, hQ256, l256, y256, z256⟩, st256⟩ := X239.specialBack hx (y := (⟨"java/lang/String", "<init>", "([C)V"⟩ : MethodName)) rfl hown (mvT hZ (hq hw 4 rfl)) (mvT hZ (hq hw 5 rfl)) (mvT hZ (hq hw 6 rfl)) (by decide) (backOf (W := 1) (rmSF_1 l Z a0 hw [] b210 b223 d0 k223 cst fv h239 n0 z251 fa248 fa250 fa249 fa254 fa241 g_b210 ne_b210_b223 hb_d0 hp_d0 SS) hZ (hq hw 6 rfl) (hq hw 3 rfl) (by decide) (by decide)) (g := (mkF m 233 #[iv p0, iv p1, iv c0, iv c1, iv c2, iv 1, iv d0, iv d1, iv d2, iv 1, rv b3, rv b30, rv b65, .unset, .unset, .unset] [(.ref b223), (.ref b210), (.ref b210)])) rfl (by rw [hml]; rfl) (Steps.refl _) (a := b210) (argsL := [(.ref b223)]) (rest := [(.ref b210)]) (lenOf pd_26 rfl) rfl (by show 2 * 0 + _ ≤ _; exact Nat.le_of_eq rfl) (hb hby at_233) (fun _ _ => ⟨rfl, e239, (by decide : 7 + 1 ≤ _), (by decide : 17 + 1 ≤ _)⟩)
    dsimp only [Pt.U, Pt.locs, Pt.cells, Pt.slots] at X256 l256 y256 z256 st256 hQ256
    subst l256 y256 z256
    rcases hQ256 with ⟨rfl, N256q, K256, A256, hq256, Fc256, ta256, kb256, Fv256, sz256, g_ta256, V256⟩
    ·skip
     have N256 := Fr.app N239 N256q
     have szk256 : h0.size ≤ ta256 := Nat.le_trans kp252.1 sz256
     have ne_b3_ta256 : b3 ≠ ta256 := Nat.ne_of_lt (Nat.lt_of_lt_of_le fa242.lt sz256)
     have ne_b30_ta256 : b30 ≠ ta256 := Nat.ne_of_lt (Nat.lt_of_lt_of_le fa243.lt sz256)
     have ne_b65_ta256 : b65 ≠ ta256 := Nat.ne_of_lt (Nat.lt_of_lt_of_le fa244.lt sz256)
     have ne_ta99_ta256 : ta99 ≠ ta256 := Nat.ne_of_lt (Nat.lt_of_lt_of_le fa245.lt sz256)
     have ne_b210_ta256 : b210 ≠ ta256 := Nat.ne_of_lt (Nat.lt_of_lt_of_le fa248.lt sz256)
     have ne_b223_ta256 : b223 ≠ ta256 := Nat.ne_of_lt (Nat.lt_of_lt_of_le fa254.lt sz256)
     have ch257 : CHv Z own_EL s.vm T256.heap := ch240.keep K256 (allS sf240_b210 all0)
     have cr257 : CHr Z own_EL s.vm h0 s.vm T256.heap := cr240.trans (CHr.keep K256 (allS sf240_b210 all0) ch240)
     have sf257_b210 : Safe Z own_EL s.vm T256.heap b210 := Safe.keep K256 (allS sf240_b210 all0) ch240 sf240_b210
     have sf257_b223 : Safe Z own_EL s.vm T256.heap b223 := Safe.keep K256 (allS sf240_b210 all0) ch240 sf240_b223
     have fa258 := fa241.keep K256 (allS g_b210 all0)
     have fa259 := fa242.keep K256 (ninS ne_b3_b210 nin0)
     have fa260 := fa243.keep K256 (ninS ne_b30_b210 nin0)
     have fa261 := fa244.keep K256
     have fa262 := fa245.keep K256 (ninS ne_ta99_b210 nin0)
     have fa263 := fa246.keep K256 (ninS ne_b65_b210 nin0)
     have fa264 := fa247.keep K256 (ninS ne_b65_b210 nin0)
     have fa265 := fa248.keep K256
     have fa266 := fa254.keep K256 (ninS (Ne.symm ne_b210_b223) nin0)
     have z267 : n0 ≤ T256.heap.size := Nat.le_trans z251 K256.1
     have hk := Nat.le_trans hk K256.1
     have kp268 : Keep h0 T256.heap [] := kp252.trans K256 (allS (Or.inr sz_b210) all0)
     obtain ⟨T269, h269, X269, e269, E269, A269, D269, -, st269⟩ := newO X256 hx hZ hown (hq hw 33 rfl) (hq hw 34 rfl) (hq hw 35 rfl) rfl (g := (mkF m 299 #[iv p0, iv p1, iv c0, iv c1, iv c2, iv 1, iv d0, iv d1, iv d2, iv 1, rv b3, rv b30, rv b65, rv b210, .unset, .unset] [])) rfl (hb hby at_299) (by decide) (by decide)
     obtain ⟨b269, g269⟩ : ∃ z, z = T256.heap.size := ⟨_, rfl⟩
     rw [← g269] at A269 D269 st269
     have g_b269 : n0 ≤ b269 := Nat.le_trans z267 (Nat.le_of_eq g269.symm)
     have sz_b269 : h0.size ≤ b269 := Nat.le_trans kp268.1 (Nat.le_of_eq g269.symm)
     have ne_b3_b269 : b3 ≠ b269 := Nat.ne_of_lt (Nat.lt_of_lt_of_le fa259.lt (Nat.le_of_eq g269.symm))
     have ne_b30_b269 : b30 ≠ b269 := Nat.ne_of_lt (Nat.lt_of_lt_of_le fa260.lt (Nat.le_of_eq g269.symm))
     have ne_b65_b269 : b65 ≠ b269 := Nat.ne_of_lt (Nat.lt_of_lt_of_le fa261.lt (Nat.le_of_eq g269.symm))
     have ne_ta99_b269 : ta99 ≠ b269 := Nat.ne_of_lt (Nat.lt_of_lt_of_le fa262.lt (Nat.le_of_eq g269.symm))
     have ne_b210_b269 : b210 ≠ b269 := Nat.ne_of_lt (Nat.lt_of_lt_of_le A256.lt (Nat.le_of_eq g269.symm))
     have ne_ta256_b269 : ta256 ≠ b269 := Nat.ne_of_lt (Nat.lt_of_lt_of_le V256.lt (Nat.le_of_eq g269.symm))
     have ch270 : CHv Z own_EL s.vm h269 := ch257.ext E269
     have cr270 : CHr Z own_EL s.vm h0 s.vm h269 := cr257.trans (CHr.ext E269 ch257)
     have sf270_b269 : Safe Z own_EL s.vm h269 b269 := Safe.ext E269 ch257 (Safe.new (Nat.le_of_eq g269.symm))
     have fa271 := fa258.ext E269
     have fa272 := fa259.ext E269
     have fa273 := fa260.ext E269
     have fa274 := fa261.ext E269
     have fa275 := fa262.ext E269
     have fa276 := fa263.ext E269
     have fa277 := fa264.ext E269
     have fa278 := A256.ext E269
     have fa279 := V256.ext E269
     have fa280 := Fc256.ext E269
     have fa281 := Fv256.ext E269
     have z282 : n0 ≤ h269.size := Nat.le_trans z267 E269.1
     have hk := Nat.le_trans hk E269.1
     have kp283 : Keep h0 h269 [] := kp268.ext E269
     have fa284 : Fld Z h269 b269 "com/example/fides/fides/RecordId" "table" "Ljava/lang/String;" .null := D269 (Or.inr (hq hw 57 rfl)) (ty := (.object "java/lang/String")) (by decide)
     have fa285 : Fld Z h269 b269 "com/example/fides/fides/RecordId" "key" "Ljava/lang/String;" .null := D269 (Or.inr (hq hw 59 rfl)) (ty := (.object "java/lang/String")) (by decide)
     have G286 : ∀ t, Steps p.tables e below (T269.setTop (mkF m 307 #[iv p0, iv p1, iv c0, iv c1, iv c2, iv 1, iv d0, iv d1, iv d2, iv 1, rv b3, rv b30, rv b65, rv b210, .unset, .unset] [(.ref b210), (.ref b65), (.ref b269), (.ref b269)])) t → Steps p.tables e below (s₁.setTop (entryFrame m #[(.int p0), (.int p1)] maxLocals)) t := by
      intro t kt
      refine G255 _ ?_
      refine st256.trans ?_
      refine XS.astore X256.here hx rfl (hb hby at_236) rfl rfl (l' := #[iv p0, iv p1, iv c0, iv c1, iv c2, iv 1, iv d0, iv d1, iv d2, iv 1, rv b3, rv b30, rv b65, rv b210, .unset, .unset]) rfl ?_
      refine XS.goto X256.here hx rfl (pc0 := 238) (pc' := 299) rfl (hb hby at_238) (by decide) (by decide) ?_
      refine st269 _ ?_
      refine XS.dup X269.here hx rfl (hb hby at_302) rfl rfl ?_
      refine XS.aload X269.here hx rfl (hb hby at_303) rfl rfl ?_
      refine XS.aload X269.here hx rfl (hb hby at_305) rfl rfl ?_
      exact kt
     obtain ⟨_, vm287, ⟨T287, L287, k287, n287⟩, -, X287, hS287, gr287, ⟨Lc287, hQ287, l287, y287, z287, C287⟩, st287⟩ := X269.specialBackS hx (y := (⟨"com/example/fides/fides/RecordId", "<init>", "(Ljava/lang/String;Ljava/lang/String;)V"⟩ : MethodName)) rfl hown (mvT hZ (hq hw 36 rfl)) (mvT hZ (hq hw 37 rfl)) (mvT hZ (hq hw 38 rfl)) (by decide) (backOfSH (s := s) (vm0 := s.vm) (W := 1) (rm7 l Z a0 hw [] b269 b65 b210 ta99 kb99 (1 : Int32) [(.int (nar .byte (c0.toInt8.toInt32)))] h269 n0 z282 A269 fa284 fa285 fa274 fa277 fa275 g_b269 (Ne.symm ne_b65_b269) (Ne.symm ne_ta99_b269) (by decide)) hZ (hq hw 38 rfl) (hq hw 35 rfl) (by decide) (by decide) hEL ch270) (g := (mkF m 307 #[iv p0, iv p1, iv c0, iv c1, iv c2, iv 1, iv d0, iv d1, iv d2, iv 1, rv b3, rv b30, rv b65, rv b210, .unset, .unset] [(.ref b210), (.ref b65), (.ref b269), (.ref b269)])) rfl (by rw [hml]; rfl) (Steps.refl _) (a := b269) (argsL := [(.ref b65), (.ref b210)]) (rest := [(.ref b269)]) (lenOf pd_27 rfl) rfl (by show 2 * 0 + _ ≤ _; exact Nat.le_of_eq rfl) (hb hby at_307) (fun _ _ => ⟨rfl, e269, (by decide : 9 + 4 ≤ _), (by decide : 20 + 40 ≤ _)⟩)
     dsimp only [Pt.U, Pt.locs, Pt.cells, Pt.slots] at X287 l287 y287 z287 st287 hQ287 hS287 gr287 C287
     subst l287 y287 z287
     have hS := hS.trans hS287 (Nat.le_trans hk (by rw [← show T269.heap = h269 from e269]; exact gr287))
     have hZ : Z.Warmed39 (s.setVm T287.vm).vm := State.Warmed39.trans hZ hS287.1
     have hown : (s.setVm T287.vm).vm.findClass "com/example/fides/fides/RecordIdToStringPinLaw" = some m.cls := by rw [show (s.setVm T287.vm).vm = T287.vm from rfl, hS287.1.alike.findClass]; exact hown
     have X287 : Stand p l e room_1 (s.setVm T287.vm) m #[(.int p0), (.int p1)] below meth c T287 _ _ _ := X287
     have hk : T287.heap.size ≤ T287.heap.size := Nat.le_refl _
     have cr288 := cr270.trans C287
     have ch288 := C287.1
     have sf288_b269 := C287.safe A269.lt sf270_b269
     obtain ⟨rfl, N287q, K287, Ft287, Fk287⟩ := hQ287
     have N287 := Fr.app N256 N287q
     have fa289 := fa271.keep K287 (allS g_b269 all0)
     have fa290 := fa272.keep K287 (ninS ne_b3_b269 nin0)
     have fa291 := fa273.keep K287 (ninS ne_b30_b269 nin0)
     have fa292 := fa274.keep K287
     have fa293 := fa275.keep K287 (ninS ne_ta99_b269 nin0)
     have fa294 := fa276.keep K287 (ninS ne_b65_b269 nin0)
     have fa295 := fa277.keep K287 (ninS ne_b65_b269 nin0)
     have fa296 := fa278.keep K287
     have fa297 := fa279.keep K287 (ninS ne_ta256_b269 nin0)
     have fa298 := fa280.keep K287 (ninS ne_b210_b269 nin0)
     have fa299 := fa281.keep K287 (ninS ne_b210_b269 nin0)
     have fa300 := A269.keep K287
     have z301 : n0 ≤ T287.heap.size := Nat.le_trans z282 K287.1
     have kp302 : Keep h0 T287.heap [] := kp283.trans K287 (allS (Or.inr sz_b269) all0)
     have G303 : ∀ t, Steps p.tables e below (T287.setTop (mkF m 310 #[iv p0, iv p1, iv c0, iv c1, iv c2, iv 1, iv d0, iv d1, iv d2, iv 1, rv b3, rv b30, rv b65, rv b210, .unset, .unset] [(.ref b269)])) t → Steps p.tables e below (s₁.setTop (entryFrame m #[(.int p0), (.int p1)] maxLocals)) t := by
      intro t kt
      refine G286 _ ?_
      refine st287.trans ?_
      exact kt
     obtain ⟨cq304, kq304, q304a, q304b, q304c⟩ := isOf hZ rfl fa300
     obtain ⟨_, vm304, ⟨T304, L304, k304, n304⟩, -, X304, hS304, gr304, ⟨Lc304, hQ304, l304, y304, z304, C304⟩, st304⟩ := X287.virtualBackS hx (y := (⟨"com/example/fides/fides/RecordId", "toString", "()Ljava/lang/String;"⟩ : MethodName)) (z := (⟨"com/example/fides/fides/RecordId", "toString", "()Ljava/lang/String;"⟩ : MethodName)) hown (mvT hZ (hq hw 60 rfl)) (mvT hZ (hq hw 61 rfl)) (notFace_of_selects (args := #[]) (mvT hZ (hq hw 63 rfl))) (mvT hZ (hq hw 63 rfl)) (mvT hZ (hq hw 62 rfl)) (by decide) (backOfSH (s := s) (vm0 := T287.vm) (W := 0) (rm11 l Z a0 hw [] b269 b65 ta99 kb99 (1 : Int32) [(.int (nar .byte (c0.toInt8.toInt32)))] b210 ta256 kb256 (1 : Int32) [(.int (nar .byte (d0.toInt8.toInt32)))] (3 : Int32) [(.int (nar .byte (c0.toInt8.toInt32))), (.int (47 : Int32)), (.int (nar .byte (d0.toInt8.toInt32)))] cst fv T287.heap n0 z301 Ft287 Fk287 fa292 fa294 fa295 fa293 fa296 fa298 fa299 fa297 fa289 (by decide) (own_mkok (by decide) (by decide) (by decide) (by decide) (Nat.le_of_ble_eq_true rfl)) (by decide) (own_mkok (by decide) (by decide) (by decide) (by decide) (Nat.le_of_ble_eq_true rfl)) (by decide) (own_mkok (by decide) (by decide) (by decide) (by decide) (Nat.le_of_ble_eq_true rfl)) (own_cr3) (by decide) rfl SS) hZ (hq hw 64 rfl) (hq hw 35 rfl) (by decide) (by decide) hEL ch288) q304a q304c (g := (mkF m 310 #[iv p0, iv p1, iv c0, iv c1, iv c2, iv 1, iv d0, iv d1, iv d2, iv 1, rv b3, rv b30, rv b65, rv b210, .unset, .unset] [(.ref b269)])) rfl (by rw [hml]; rfl) (Steps.refl _) (argsL := []) (rest := []) (lenOf pd_23 rfl) rfl (by show 2 * 0 + _ ≤ _; exact Nat.le_of_eq rfl) (hb hby at_310) (fun _ _ => ⟨rfl, rfl, (by decide : 13 + 6 ≤ _), (by decide : 60 + 40 ≤ _)⟩)
     dsimp only [Pt.U, Pt.locs, Pt.cells, Pt.slots] at X304 l304 y304 z304 st304 hQ304 hS304 gr304 C304
     subst l304 y304 z304
     have hS := hS.trans hS304 (Nat.le_trans hk (by rw [← show T287.heap = T287.heap from rfl]; exact gr304))
     have hZ : Z.Warmed39 (s.setVm T304.vm).vm := State.Warmed39.trans hZ hS304.1
     have hown : (s.setVm T304.vm).vm.findClass "com/example/fides/fides/RecordIdToStringPinLaw" = some m.cls := by rw [show (s.setVm T304.vm).vm = T304.vm from rfl, hS304.1.alike.findClass]; exact hown
     have X304 : Stand p l e room_1 (s.setVm T304.vm) m #[(.int p0), (.int p1)] below meth c T304 _ _ _ := X304
     have hk : T304.heap.size ≤ T304.heap.size := Nat.le_refl _
     have cr305 := cr288.trans C304
     have ch305 := C304.1
     have sf305_b269 := C304.safe fa300.lt sf288_b269
     obtain ⟨s304, t304, kb304, rfl, N304q, K304, A304, Fc304, Fv304, V304⟩ := hQ304
     have N304 := Fr.app N287 N304q
     have fa306 := fa289.keep K304 all0
     have fa307 := fa290.keep K304 nin0
     have fa308 := fa291.keep K304 nin0
     have fa309 := fa292.keep K304
     have fa310 := fa293.keep K304 nin0
     have fa311 := fa294.keep K304 nin0
     have fa312 := fa295.keep K304 nin0
     have fa313 := fa296.keep K304
     have fa314 := fa297.keep K304 nin0
     have fa315 := fa298.keep K304 nin0
     have fa316 := fa299.keep K304 nin0
     have fa317 := fa300.keep K304
     have fa318 := Ft287.keep K304 nin0
     have fa319 := Fk287.keep K304 nin0
     have z320 : n0 ≤ T304.heap.size := Nat.le_trans z301 K304.1
     have kp321 : Keep h0 T304.heap [] := kp302.trans K304 all0
     have G322 : ∀ t, Steps p.tables e below (T304.setTop (mkF m 324 #[iv p0, iv p1, iv c0, iv c1, iv c2, iv 1, iv d0, iv d1, iv d2, iv 1, rv b3, rv b30, rv b65, rv b210, rv s304, iv 3] [])) t → Steps p.tables e below (s₁.setTop (entryFrame m #[(.int p0), (.int p1)] maxLocals)) t := by
      intro t kt
      refine G303 _ ?_
      refine st304.trans ?_
      refine XS.astore X304.here hx rfl (hb hby at_313) rfl rfl (l' := #[iv p0, iv p1, iv c0, iv c1, iv c2, iv 1, iv d0, iv d1, iv d2, iv 1, rv b3, rv b30, rv b65, rv b210, rv s304, .unset]) rfl ?_
      refine XS.iload X304.here hx rfl (hb hby at_315) rfl ?_
      show Steps p.tables e below (T304.setTop (mkF m 317 #[iv p0, iv p1, iv c0, iv c1, iv c2, iv 1, iv d0, iv d1, iv d2, iv 1, rv b3, rv b30, rv b65, rv b210, rv s304, .unset] [(.int (1 : Int32))])) _
      refine XS.iconst X304.here hx rfl (hb hby at_317) ?_
      refine XS.iadd X304.here hx rfl (hb hby at_318) rfl ?_
      refine XS.iload X304.here hx rfl (hb hby at_319) rfl ?_
      refine XS.iadd X304.here hx rfl (hb hby at_321) rfl ?_
      refine XS.istore X304.here hx rfl (hb hby at_322) rfl (l' := #[iv p0, iv p1, iv c0, iv c1, iv c2, iv 1, iv d0, iv d1, iv d2, iv 1, rv b3, rv b30, rv b65, rv b210, rv s304, iv 3]) rfl ?_
      exact kt
     obtain ⟨T323, L323, X323, e323, N323, K323⟩ := own_tail (l := l) (Z := Z) (a0 := a0) (iv p0) (iv p1) (iv c0) (iv c1) (iv c2) (iv d0) (iv d1) (iv d2) (iv 1) (rv b65) (rv b210) (1 : Int32) (3 : Int32) b3 b30 s304 t304 kb304 (3 : Int32) [(.int (nar .byte (c0.toInt8.toInt32))), (.int (47 : Int32)), (.int (nar .byte (d0.toInt8.toInt32)))] k3 (3 : Int32) [(.int c0), (.int c1), (.int c2)] k30 (3 : Int32) [(.int d0), (.int d1), (.int d2)] cst fv X304 hx hZ hw hby hml hown rfl N304 z320 A304 Fc304 Fv304 V304 fa307 fa308 fa306 (by decide) (by decide) (by decide) (own_atT (xx := (nar .byte (c0.toInt8.toInt32))) (cc := c0) (by decide) (by decide) (by decide) rfl (own_lat c0 hb_c0 hp_c0) (by decide) rfl (by decide)) (own_atM (xx := (47 : Int32)) (by decide) (by decide) (by decide) rfl (by decide) (by decide) (by decide)) (own_atK (xx := (nar .byte (d0.toInt8.toInt32))) (cc := d0) (by decide) (by decide) (by decide) rfl (own_lat d0 hb_d0 hp_d0) (by decide) rfl (by decide) (by decide)) (own_atD (by decide)) (own_atD (by decide)) (own_atD (by decide)) (own_atD (by decide)) SS
     have G324 : ∀ t, Steps p.tables e below (T323.setTop (mkF m 461 #[iv p0, iv p1, iv c0, iv c1, iv c2, iv 1, iv d0, iv d1, iv d2, iv 1, rv b3, rv b30, rv b65, rv b210, rv s304, iv 3] [])) t → Steps p.tables e below (s₁.setTop (entryFrame m #[(.int p0), (.int p1)] maxLocals)) t := fun t kt => G322 t (K323 t kt)
     obtain ⟨fs, hr, hrun, hended, hRW⟩ := X323.leaveW (s := s) hS (by rw [show T323.heap = T304.heap from e323]; exact hk) (v := some (.int (1 : Int32))) (fun h => by rw [Bd.returns] at h; cases h) (BodyLoose.notSynchronized Bd)
     refine ⟨_, _, G324 _ ?_, hrun, hended, _, _, rfl, ?_, hRW.1, hRW.2.1, hRW.2.2.1, hRW.2.2.2.mono (by decide) (by decide)⟩
     ·skip
      refine XS.iconst X323.here hx rfl (hb hby at_461) ?_
      refine XS.goto X323.here hx rfl (pc0 := 462) (pc' := 466) rfl (hb hby at_462) (by decide) (by decide) ?_
      exact retN X323 hx (t := .boolean) Bd.returns (by simp) (hb hby at_466) hr
     ·show Q0 Z p0 p1 cst fv h0 n0 _ T323.heap _
      rw [e323]
      exact ⟨rfl, N323⟩
   ·skip
    have G325 : ∀ t, Steps p.tables e below (T99.setTop (mkF m 197 #[iv p0, iv p1, iv c0, iv c1, iv c2, iv 1, iv d0, iv d1, iv d2, iv 2, rv b3, rv b30, rv b65, .unset, .unset, .unset] [(.int (2 : Int32))])) t → Steps p.tables e below (s₁.setTop (entryFrame m #[(.int p0), (.int p1)] maxLocals)) t := by
     intro t kt
     refine G108 _ ?_
     refine XS.iload X99.here hx rfl (hb hby at_195) rfl ?_
     exact kt
    have G326 : ∀ t, Steps p.tables e below (T99.setTop (mkF m 218 #[iv p0, iv p1, iv c0, iv c1, iv c2, iv 1, iv d0, iv d1, iv d2, iv 2, rv b3, rv b30, rv b65, .unset, .unset, .unset] [(.int (1 : Int32)), (.int (2 : Int32))])) t → Steps p.tables e below (s₁.setTop (entryFrame m #[(.int p0), (.int p1)] maxLocals)) t := by
     intro t kt
     refine G325 _ ?_
     refine XS.ifYes X99.here hx rfl (pc0 := 197) (pc' := 215) rfl (hb hby at_197) rfl ((if0 _ _).trans (feq (by decide)).2) (by decide) (by decide) ?_
     refine XS.iload X99.here hx rfl (hb hby at_215) rfl ?_
     show Steps p.tables e below (T99.setTop (mkF m 217 #[iv p0, iv p1, iv c0, iv c1, iv c2, iv 1, iv d0, iv d1, iv d2, iv 2, rv b3, rv b30, rv b65, .unset, .unset, .unset] [(.int (2 : Int32))])) _
     refine XS.iconst X99.here hx rfl (hb hby at_217) ?_
     exact kt
    have G327 : ∀ t, Steps p.tables e below (T99.setTop (mkF m 244 #[iv p0, iv p1, iv c0, iv c1, iv c2, iv 1, iv d0, iv d1, iv d2, iv 2, rv b3, rv b30, rv b65, .unset, .unset, .unset] [(.int (2 : Int32)), (.int (2 : Int32))])) t → Steps p.tables e below (s₁.setTop (entryFrame m #[(.int p0), (.int p1)] maxLocals)) t := by
     intro t kt
     refine G326 _ ?_
     refine XS.icmpYes X99.here hx rfl (pc0 := 218) (pc' := 241) rfl (hb hby at_218) rfl (feq (by decide)).2 (by decide) (by decide) ?_
     refine XS.iload X99.here hx rfl (hb hby at_241) rfl ?_
     refine XS.iconst X99.here hx rfl (hb hby at_243) ?_
     exact kt
    obtain ⟨T328, h328, X328, e328, E328, A328, D328, -, st328⟩ := newO X99 hx hZ hown (hq hw 1 rfl) (hq hw 2 rfl) (hq hw 3 rfl) rfl (g := (mkF m 247 #[iv p0, iv p1, iv c0, iv c1, iv c2, iv 1, iv d0, iv d1, iv d2, iv 2, rv b3, rv b30, rv b65, .unset, .unset, .unset] [])) rfl (hb hby at_247) (by decide) (by decide)
    obtain ⟨b328, g328⟩ : ∃ z, z = T99.heap.size := ⟨_, rfl⟩
    rw [← g328] at A328 D328 st328
    have g_b328 : n0 ≤ b328 := Nat.le_trans z106 (Nat.le_of_eq g328.symm)
    have sz_b328 : h0.size ≤ b328 := Nat.le_trans kp107.1 (Nat.le_of_eq g328.symm)
    have ne_b3_b328 : b3 ≠ b328 := Nat.ne_of_lt (Nat.lt_of_lt_of_le fa102.lt (Nat.le_of_eq g328.symm))
    have ne_b30_b328 : b30 ≠ b328 := Nat.ne_of_lt (Nat.lt_of_lt_of_le fa103.lt (Nat.le_of_eq g328.symm))
    have ne_b65_b328 : b65 ≠ b328 := Nat.ne_of_lt (Nat.lt_of_lt_of_le A99.lt (Nat.le_of_eq g328.symm))
    have ne_ta99_b328 : ta99 ≠ b328 := Nat.ne_of_lt (Nat.lt_of_lt_of_le V99.lt (Nat.le_of_eq g328.symm))
    have ch329 : CHv Z own_EL s.vm h328 := ch100.ext E328
    have cr329 : CHr Z own_EL s.vm h0 s.vm h328 := cr100.trans (CHr.ext E328 ch100)
    have sf329_b328 : Safe Z own_EL s.vm h328 b328 := Safe.ext E328 ch100 (Safe.new (Nat.le_of_eq g328.symm))
    have fa330 := fa101.ext E328
    have fa331 := fa102.ext E328
    have fa332 := fa103.ext E328
    have fa333 := A99.ext E328
    have fa334 := V99.ext E328
    have fa335 := Fc99.ext E328
    have fa336 := Fv99.ext E328
    have z337 : n0 ≤ h328.size := Nat.le_trans z106 E328.1
    have hk := Nat.le_trans hk E328.1
    have kp338 : Keep h0 h328 [] := kp107.ext E328
    have fa339 : Fld Z h328 b328 "java/lang/String" "coder" "B" (.int (0 : Int32)) := D328 (Or.inr (hq hw 27 rfl)) (ty := .byte) (by decide)
    have fa340 : Fld Z h328 b328 "java/lang/String" "value" "[B" .null := D328 (Or.inr (hq hw 29 rfl)) (ty := (.array .byte)) (by decide)
    obtain ⟨T341, h341, k341, X341, e341, E341, A341, st341⟩ := newP X328 hx hZ (hq hw 0 rfl) e328 (g := (mkF m 252 #[iv p0, iv p1, iv c0, iv c1, iv c2, iv 1, iv d0, iv d1, iv d2, iv 2, rv b3, rv b30, rv b65, .unset, .unset, .unset] [(.int (2 : Int32)), (.ref b328), (.ref b328)])) rfl (hb hby at_252) rfl (by decide) (cap := 2) (by decide) (by decide) (by decide) (by decide)
    obtain ⟨b341, g341⟩ : ∃ z, z = h328.size := ⟨_, rfl⟩
    rw [← g341] at A341 st341
    have g_b341 : n0 ≤ b341 := Nat.le_trans z337 (Nat.le_of_eq g341.symm)
    have sz_b341 : h0.size ≤ b341 := Nat.le_trans kp338.1 (Nat.le_of_eq g341.symm)
    have ne_b3_b341 : b3 ≠ b341 := Nat.ne_of_lt (Nat.lt_of_lt_of_le fa331.lt (Nat.le_of_eq g341.symm))
    have ne_b30_b341 : b30 ≠ b341 := Nat.ne_of_lt (Nat.lt_of_lt_of_le fa332.lt (Nat.le_of_eq g341.symm))
    have ne_b65_b341 : b65 ≠ b341 := Nat.ne_of_lt (Nat.lt_of_lt_of_le fa333.lt (Nat.le_of_eq g341.symm))
    have ne_ta99_b341 : ta99 ≠ b341 := Nat.ne_of_lt (Nat.lt_of_lt_of_le fa334.lt (Nat.le_of_eq g341.symm))
    have ne_b328_b341 : b328 ≠ b341 := Nat.ne_of_lt (Nat.lt_of_lt_of_le A328.lt (Nat.le_of_eq g341.symm))
    have ch342 : CHv Z own_EL s.vm h341 := ch329.ext E341
    have cr342 : CHr Z own_EL s.vm h0 s.vm h341 := cr329.trans (CHr.ext E341 ch329)
    have sf342_b328 : Safe Z own_EL s.vm h341 b328 := Safe.ext E341 ch329 sf329_b328
    have sf342_b341 : Safe Z own_EL s.vm h341 b341 := Safe.ext E341 ch329 (Safe.new (Nat.le_of_eq g341.symm))
    have fa343 := fa330.ext E341
    have fa344 := fa331.ext E341
    have fa345 := fa332.ext E341
    have fa346 := fa333.ext E341
    have fa347 := fa334.ext E341
    have fa348 := fa335.ext E341
    have fa349 := fa336.ext E341
    have fa350 := A328.ext E341
    have fa351 := fa339.ext E341
    have fa352 := fa340.ext E341
    have z353 : n0 ≤ h341.size := Nat.le_trans z337 E341.1
    have hk := Nat.le_trans hk E341.1
    have kp354 : Keep h0 h341 [] := kp338.ext E341
    have fa355 : Arv Z h341 b341 k341 .char (2 : Int32) [(.int (0 : Int32)), (.int (0 : Int32))] (.int (0 : Int32)) := (Arv.new A341 (by decide)).pad (pad_rep [] (.int (0 : Int32)) 2)
    obtain ⟨cl356, Ar356, q356, S356, M356, H356, G356⟩ := id fa355
    have hin356 : ¬ ((0 : Int32) < 0 ∨ cl356.slots.size ≤ ((0 : Int32)).toNatClampNeg) := inb_of S356 ⟨by decide, by decide⟩
    obtain ⟨T357, h357, X357, e357, W357, st357⟩ := stC X341 hx hZ e341 Ar356 (j := (0 : Int32)) hin356 (g := (mkF m 258 #[iv p0, iv p1, iv c0, iv c1, iv c2, iv 1, iv d0, iv d1, iv d2, iv 2, rv b3, rv b30, rv b65, .unset, .unset, .unset] [(.int d0), (.int (0 : Int32)), (.ref b341), (.ref b341), (.ref b328), (.ref b328)])) rfl rfl (hb hby at_258)
    have ch358 : CHv Z own_EL s.vm h357 := ch342.wr W357 sf342_b341
    have cr358 : CHr Z own_EL s.vm h0 s.vm h357 := cr342.trans (CHr.wr W357 sf342_b341 ch342)
    have sf358_b328 : Safe Z own_EL s.vm h357 b328 := Safe.wr W357 sf342_b341 ch342 sf342_b328
    have sf358_b341 : Safe Z own_EL s.vm h357 b341 := Safe.wr W357 sf342_b341 ch342 sf342_b341
    have fa359 := fa343.wr W357 g_b341
    have fa360 := fa344.other W357 ne_b3_b341
    have fa361 := fa345.other W357 ne_b30_b341
    have fa362 := fa346.wr W357
    have fa363 := fa347.other W357 ne_ta99_b341
    have fa364 := fa348.other W357 (Or.inl ne_b65_b341)
    have fa365 := fa349.other W357 (Or.inl ne_b65_b341)
    have fa366 := fa350.wr W357
    have fa367 := fa351.other W357 (Or.inl ne_b328_b341)
    have fa368 := fa352.other W357 (Or.inl ne_b328_b341)
    have z369 : n0 ≤ h357.size := Nat.le_trans z353 (Nat.le_of_eq W357.size.symm)
    have hk := Nat.le_trans hk (Nat.le_of_eq W357.size.symm)
    have kp370 : Keep h0 h357 [] := kp354.wr W357 (Or.inr sz_b341)
    have fa371 : Arv Z h357 b341 k341 .char (2 : Int32) [(.int (nar .char d0)), (.int (0 : Int32))] (.int (0 : Int32)) := Arv.set Ar356 q356 S356 M356 H356 G356 (fits_nar_char _) W357 0 rfl (Nat.le_of_ble_eq_true rfl)
    have N357 := Fr.snoc X357 N99 g_b341
    obtain ⟨cl372, Ar372, q372, S372, M372, H372, G372⟩ := id fa371
    have hin372 : ¬ ((1 : Int32) < 0 ∨ cl372.slots.size ≤ ((1 : Int32)).toNatClampNeg) := inb_of S372 ⟨by decide, by decide⟩
    obtain ⟨T373, h373, X373, e373, W373, st373⟩ := stC X357 hx hZ e357 Ar372 (j := (1 : Int32)) hin372 (g := (mkF m 263 #[iv p0, iv p1, iv c0, iv c1, iv c2, iv 1, iv d0, iv d1, iv d2, iv 2, rv b3, rv b30, rv b65, .unset, .unset, .unset] [(.int d1), (.int (1 : Int32)), (.ref b341), (.ref b341), (.ref b328), (.ref b328)])) rfl rfl (hb hby at_263)
    have ch374 : CHv Z own_EL s.vm h373 := ch358.wr W373 sf358_b341
    have cr374 : CHr Z own_EL s.vm h0 s.vm h373 := cr358.trans (CHr.wr W373 sf358_b341 ch358)
    have sf374_b328 : Safe Z own_EL s.vm h373 b328 := Safe.wr W373 sf358_b341 ch358 sf358_b328
    have sf374_b341 : Safe Z own_EL s.vm h373 b341 := Safe.wr W373 sf358_b341 ch358 sf358_b341
    have fa375 := fa359.wr W373 g_b341
    have fa376 := fa360.other W373 ne_b3_b341
    have fa377 := fa361.other W373 ne_b30_b341
    have fa378 := fa362.wr W373
    have fa379 := fa363.other W373 ne_ta99_b341
    have fa380 := fa364.other W373 (Or.inl ne_b65_b341)
    have fa381 := fa365.other W373 (Or.inl ne_b65_b341)
    have fa382 := fa366.wr W373
    have fa383 := fa367.other W373 (Or.inl ne_b328_b341)
    have fa384 := fa368.other W373 (Or.inl ne_b328_b341)
    have z385 : n0 ≤ h373.size := Nat.le_trans z369 (Nat.le_of_eq W373.size.symm)
    have hk := Nat.le_trans hk (Nat.le_of_eq W373.size.symm)
    have kp386 : Keep h0 h373 [] := kp370.wr W373 (Or.inr sz_b341)
    have fa387 : Arv Z h373 b341 k341 .char (2 : Int32) [(.int (nar .char d0)), (.int (nar .char d1))] (.int (0 : Int32)) := Arv.set Ar372 q372 S372 M372 H372 G372 (fits_nar_char _) W373 1 rfl (Nat.le_of_ble_eq_true rfl)
    have N373 := Fr.snoc X373 N357 g_b341
    have fa388 : Arv Z h373 b341 k341 .char (2 : Int32) [(.int d0), (.int d1)] (.int (0 : Int32)) := by have q := fa387; rw [own_narc d0 hb_d0, own_narc d1 hb_d1] at q; exact q
    have G389 : ∀ t, Steps p.tables e below (T373.setTop (mkF m 264 #[iv p0, iv p1, iv c0, iv c1, iv c2, iv 1, iv d0, iv d1, iv d2, iv 2, rv b3, rv b30, rv b65, .unset, .unset, .unset] [(.ref b341), (.ref b328), (.ref b328)])) t → Steps p.tables e below (s₁.setTop (entryFrame m #[(.int p0), (.int p1)] maxLocals)) t := by
     intro t kt
     refine G327 _ ?_
     refine XS.icmpNo X99.here hx rfl (hb hby at_244) rfl (teq (by decide)).2 ?_
     refine st328 _ ?_
     refine XS.dup X328.here hx rfl (hb hby at_250) rfl rfl ?_
     refine XS.iconst X328.here hx rfl (hb hby at_251) ?_
     refine st341 _ ?_
     refine XS.dup X341.here hx rfl (hb hby at_254) rfl rfl ?_
     refine XS.iconst X341.here hx rfl (hb hby at_255) ?_
     refine XS.iload X341.here hx rfl (hb hby at_256) rfl ?_
     refine st357 _ ?_
     refine XS.dup X357.here hx rfl (hb hby at_259) rfl rfl ?_
     refine XS.iconst X357.here hx rfl (hb hby at_260) ?_
     refine XS.iload X357.here hx rfl (hb hby at_261) rfl ?_
     refine st373 _ ?_
     exact kt
    obtain ⟨_, _, ⟨T390, L390, k390, n390⟩, -, X390, ⟨Lc390, hQ390, l390, y390, z390⟩, st390⟩ := X373.specialBack hx (y := (⟨"java/lang/String", "<init>", "([C)V"⟩ : MethodName)) rfl hown (mvT hZ (hq hw 4 rfl)) (mvT hZ (hq hw 5 rfl)) (mvT hZ (hq hw 6 rfl)) (by decide) (backOf (W := 1) (rmSF_2 l Z a0 hw [] b328 b341 d0 d1 k341 cst fv h373 n0 z385 fa382 fa384 fa383 fa388 fa375 g_b328 ne_b328_b341 hb_d0 hb_d1 hp_d0 hp_d1 SS) hZ (hq hw 6 rfl) (hq hw 3 rfl) (by decide) (by decide)) (g := (mkF m 264 #[iv p0, iv p1, iv c0, iv c1, iv c2, iv 1, iv d0, iv d1, iv d2, iv 2, rv b3, rv b30, rv b65, .unset, .unset, .unset] [(.ref b341), (.ref b328), (.ref b328)])) rfl (by rw [hml]; rfl) (Steps.refl _) (a := b328) (argsL := [(.ref b341)]) (rest := [(.ref b328)]) (lenOf pd_26 rfl) rfl (by show 2 * 0 + _ ≤ _; exact Nat.le_of_eq rfl) (hb hby at_264) (fun _ _ => ⟨rfl, e373, (by decide : 7 + 1 ≤ _), (by decide : 18 + 2 ≤ _)⟩)
    dsimp only [Pt.U, Pt.locs, Pt.cells, Pt.slots] at X390 l390 y390 z390 st390 hQ390
    subst l390 y390 z390
    rcases hQ390 with ⟨rfl, N390q, K390, A390, hq390, Fc390, ta390, kb390, Fv390, sz390, g_ta390, V390⟩
    ·skip
     have N390 := Fr.app N373 N390q
     have szk390 : h0.size ≤ ta390 := Nat.le_trans kp386.1 sz390
     have ne_b3_ta390 : b3 ≠ ta390 := Nat.ne_of_lt (Nat.lt_of_lt_of_le fa376.lt sz390)
     have ne_b30_ta390 : b30 ≠ ta390 := Nat.ne_of_lt (Nat.lt_of_lt_of_le fa377.lt sz390)
     have ne_b65_ta390 : b65 ≠ ta390 := Nat.ne_of_lt (Nat.lt_of_lt_of_le fa378.lt sz390)
     have ne_ta99_ta390 : ta99 ≠ ta390 := Nat.ne_of_lt (Nat.lt_of_lt_of_le fa379.lt sz390)
     have ne_b328_ta390 : b328 ≠ ta390 := Nat.ne_of_lt (Nat.lt_of_lt_of_le fa382.lt sz390)
     have ne_b341_ta390 : b341 ≠ ta390 := Nat.ne_of_lt (Nat.lt_of_lt_of_le fa388.lt sz390)
     have ch391 : CHv Z own_EL s.vm T390.heap := ch374.keep K390 (allS sf374_b328 all0)
     have cr391 : CHr Z own_EL s.vm h0 s.vm T390.heap := cr374.trans (CHr.keep K390 (allS sf374_b328 all0) ch374)
     have sf391_b328 : Safe Z own_EL s.vm T390.heap b328 := Safe.keep K390 (allS sf374_b328 all0) ch374 sf374_b328
     have sf391_b341 : Safe Z own_EL s.vm T390.heap b341 := Safe.keep K390 (allS sf374_b328 all0) ch374 sf374_b341
     have fa392 := fa375.keep K390 (allS g_b328 all0)
     have fa393 := fa376.keep K390 (ninS ne_b3_b328 nin0)
     have fa394 := fa377.keep K390 (ninS ne_b30_b328 nin0)
     have fa395 := fa378.keep K390
     have fa396 := fa379.keep K390 (ninS ne_ta99_b328 nin0)
     have fa397 := fa380.keep K390 (ninS ne_b65_b328 nin0)
     have fa398 := fa381.keep K390 (ninS ne_b65_b328 nin0)
     have fa399 := fa382.keep K390
     have fa400 := fa388.keep K390 (ninS (Ne.symm ne_b328_b341) nin0)
     have z401 : n0 ≤ T390.heap.size := Nat.le_trans z385 K390.1
     have hk := Nat.le_trans hk K390.1
     have kp402 : Keep h0 T390.heap [] := kp386.trans K390 (allS (Or.inr sz_b328) all0)
     obtain ⟨T403, h403, X403, e403, E403, A403, D403, -, st403⟩ := newO X390 hx hZ hown (hq hw 33 rfl) (hq hw 34 rfl) (hq hw 35 rfl) rfl (g := (mkF m 299 #[iv p0, iv p1, iv c0, iv c1, iv c2, iv 1, iv d0, iv d1, iv d2, iv 2, rv b3, rv b30, rv b65, rv b328, .unset, .unset] [])) rfl (hb hby at_299) (by decide) (by decide)
     obtain ⟨b403, g403⟩ : ∃ z, z = T390.heap.size := ⟨_, rfl⟩
     rw [← g403] at A403 D403 st403
     have g_b403 : n0 ≤ b403 := Nat.le_trans z401 (Nat.le_of_eq g403.symm)
     have sz_b403 : h0.size ≤ b403 := Nat.le_trans kp402.1 (Nat.le_of_eq g403.symm)
     have ne_b3_b403 : b3 ≠ b403 := Nat.ne_of_lt (Nat.lt_of_lt_of_le fa393.lt (Nat.le_of_eq g403.symm))
     have ne_b30_b403 : b30 ≠ b403 := Nat.ne_of_lt (Nat.lt_of_lt_of_le fa394.lt (Nat.le_of_eq g403.symm))
     have ne_b65_b403 : b65 ≠ b403 := Nat.ne_of_lt (Nat.lt_of_lt_of_le fa395.lt (Nat.le_of_eq g403.symm))
     have ne_ta99_b403 : ta99 ≠ b403 := Nat.ne_of_lt (Nat.lt_of_lt_of_le fa396.lt (Nat.le_of_eq g403.symm))
     have ne_b328_b403 : b328 ≠ b403 := Nat.ne_of_lt (Nat.lt_of_lt_of_le A390.lt (Nat.le_of_eq g403.symm))
     have ne_ta390_b403 : ta390 ≠ b403 := Nat.ne_of_lt (Nat.lt_of_lt_of_le V390.lt (Nat.le_of_eq g403.symm))
     have ch404 : CHv Z own_EL s.vm h403 := ch391.ext E403
     have cr404 : CHr Z own_EL s.vm h0 s.vm h403 := cr391.trans (CHr.ext E403 ch391)
     have sf404_b403 : Safe Z own_EL s.vm h403 b403 := Safe.ext E403 ch391 (Safe.new (Nat.le_of_eq g403.symm))
     have fa405 := fa392.ext E403
     have fa406 := fa393.ext E403
     have fa407 := fa394.ext E403
     have fa408 := fa395.ext E403
     have fa409 := fa396.ext E403
     have fa410 := fa397.ext E403
     have fa411 := fa398.ext E403
     have fa412 := A390.ext E403
     have fa413 := V390.ext E403
     have fa414 := Fc390.ext E403
     have fa415 := Fv390.ext E403
     have z416 : n0 ≤ h403.size := Nat.le_trans z401 E403.1
     have hk := Nat.le_trans hk E403.1
     have kp417 : Keep h0 h403 [] := kp402.ext E403
     have fa418 : Fld Z h403 b403 "com/example/fides/fides/RecordId" "table" "Ljava/lang/String;" .null := D403 (Or.inr (hq hw 57 rfl)) (ty := (.object "java/lang/String")) (by decide)
     have fa419 : Fld Z h403 b403 "com/example/fides/fides/RecordId" "key" "Ljava/lang/String;" .null := D403 (Or.inr (hq hw 59 rfl)) (ty := (.object "java/lang/String")) (by decide)
     have G420 : ∀ t, Steps p.tables e below (T403.setTop (mkF m 307 #[iv p0, iv p1, iv c0, iv c1, iv c2, iv 1, iv d0, iv d1, iv d2, iv 2, rv b3, rv b30, rv b65, rv b328, .unset, .unset] [(.ref b328), (.ref b65), (.ref b403), (.ref b403)])) t → Steps p.tables e below (s₁.setTop (entryFrame m #[(.int p0), (.int p1)] maxLocals)) t := by
      intro t kt
      refine G389 _ ?_
      refine st390.trans ?_
      refine XS.astore X390.here hx rfl (hb hby at_267) rfl rfl (l' := #[iv p0, iv p1, iv c0, iv c1, iv c2, iv 1, iv d0, iv d1, iv d2, iv 2, rv b3, rv b30, rv b65, rv b328, .unset, .unset]) rfl ?_
      refine XS.goto X390.here hx rfl (pc0 := 269) (pc' := 299) rfl (hb hby at_269) (by decide) (by decide) ?_
      refine st403 _ ?_
      refine XS.dup X403.here hx rfl (hb hby at_302) rfl rfl ?_
      show Steps p.tables e below (T403.setTop (mkF m 303 #[iv p0, iv p1, iv c0, iv c1, iv c2, iv 1, iv d0, iv d1, iv d2, iv 2, rv b3, rv b30, rv b65, rv b328, .unset, .unset] [(.ref b403), (.ref b403)])) _
      refine XS.aload X403.here hx rfl (hb hby at_303) rfl rfl ?_
      refine XS.aload X403.here hx rfl (hb hby at_305) rfl rfl ?_
      exact kt
     obtain ⟨_, vm421, ⟨T421, L421, k421, n421⟩, -, X421, hS421, gr421, ⟨Lc421, hQ421, l421, y421, z421, C421⟩, st421⟩ := X403.specialBackS hx (y := (⟨"com/example/fides/fides/RecordId", "<init>", "(Ljava/lang/String;Ljava/lang/String;)V"⟩ : MethodName)) rfl hown (mvT hZ (hq hw 36 rfl)) (mvT hZ (hq hw 37 rfl)) (mvT hZ (hq hw 38 rfl)) (by decide) (backOfSH (s := s) (vm0 := s.vm) (W := 1) (rm7 l Z a0 hw [] b403 b65 b328 ta99 kb99 (1 : Int32) [(.int (nar .byte (c0.toInt8.toInt32)))] h403 n0 z416 A403 fa418 fa419 fa408 fa411 fa409 g_b403 (Ne.symm ne_b65_b403) (Ne.symm ne_ta99_b403) (by decide)) hZ (hq hw 38 rfl) (hq hw 35 rfl) (by decide) (by decide) hEL ch404) (g := (mkF m 307 #[iv p0, iv p1, iv c0, iv c1, iv c2, iv 1, iv d0, iv d1, iv d2, iv 2, rv b3, rv b30, rv b65, rv b328, .unset, .unset] [(.ref b328), (.ref b65), (.ref b403), (.ref b403)])) rfl (by rw [hml]; rfl) (Steps.refl _) (a := b403) (argsL := [(.ref b65), (.ref b328)]) (rest := [(.ref b403)]) (lenOf pd_27 rfl) rfl (by show 2 * 0 + _ ≤ _; exact Nat.le_of_eq rfl) (hb hby at_307) (fun _ _ => ⟨rfl, e403, (by decide : 9 + 4 ≤ _), (by decide : 22 + 40 ≤ _)⟩)
     dsimp only [Pt.U, Pt.locs, Pt.cells, Pt.slots] at X421 l421 y421 z421 st421 hQ421 hS421 gr421 C421
     subst l421 y421 z421
     have hS := hS.trans hS421 (Nat.le_trans hk (by rw [← show T403.heap = h403 from e403]; exact gr421))
     have hZ : Z.Warmed39 (s.setVm T421.vm).vm := State.Warmed39.trans hZ hS421.1
     have hown : (s.setVm T421.vm).vm.findClass "com/example/fides/fides/RecordIdToStringPinLaw" = some m.cls := by rw [show (s.setVm T421.vm).vm = T421.vm from rfl, hS421.1.alike.findClass]; exact hown
     have X421 : Stand p l e room_1 (s.setVm T421.vm) m #[(.int p0), (.int p1)] below meth c T421 _ _ _ := X421
     have hk : T421.heap.size ≤ T421.heap.size := Nat.le_refl _
     have cr422 := cr404.trans C421
     have ch422 := C421.1
     have sf422_b403 := C421.safe A403.lt sf404_b403
     obtain ⟨rfl, N421q, K421, Ft421, Fk421⟩ := hQ421
     have N421 := Fr.app N390 N421q
     have fa423 := fa405.keep K421 (allS g_b403 all0)
     have fa424 := fa406.keep K421 (ninS ne_b3_b403 nin0)
     have fa425 := fa407.keep K421 (ninS ne_b30_b403 nin0)
     have fa426 := fa408.keep K421
     have fa427 := fa409.keep K421 (ninS ne_ta99_b403 nin0)
     have fa428 := fa410.keep K421 (ninS ne_b65_b403 nin0)
     have fa429 := fa411.keep K421 (ninS ne_b65_b403 nin0)
     have fa430 := fa412.keep K421
     have fa431 := fa413.keep K421 (ninS ne_ta390_b403 nin0)
     have fa432 := fa414.keep K421 (ninS ne_b328_b403 nin0)
     have fa433 := fa415.keep K421 (ninS ne_b328_b403 nin0)
     have fa434 := A403.keep K421
     have z435 : n0 ≤ T421.heap.size := Nat.le_trans z416 K421.1
     have kp436 : Keep h0 T421.heap [] := kp417.trans K421 (allS (Or.inr sz_b403) all0)
     have G437 : ∀ t, Steps p.tables e below (T421.setTop (mkF m 310 #[iv p0, iv p1, iv c0, iv c1, iv c2, iv 1, iv d0, iv d1, iv d2, iv 2, rv b3, rv b30, rv b65, rv b328, .unset, .unset] [(.ref b403)])) t → Steps p.tables e below (s₁.setTop (entryFrame m #[(.int p0), (.int p1)] maxLocals)) t := by
      intro t kt
      refine G420 _ ?_
      refine st421.trans ?_
      exact kt
     obtain ⟨cq438, kq438, q438a, q438b, q438c⟩ := isOf hZ rfl fa434
     obtain ⟨_, vm438, ⟨T438, L438, k438, n438⟩, -, X438, hS438, gr438, ⟨Lc438, hQ438, l438, y438, z438, C438⟩, st438⟩ := X421.virtualBackS hx (y := (⟨"com/example/fides/fides/RecordId", "toString", "()Ljava/lang/String;"⟩ : MethodName)) (z := (⟨"com/example/fides/fides/RecordId", "toString", "()Ljava/lang/String;"⟩ : MethodName)) hown (mvT hZ (hq hw 60 rfl)) (mvT hZ (hq hw 61 rfl)) (notFace_of_selects (args := #[]) (mvT hZ (hq hw 63 rfl))) (mvT hZ (hq hw 63 rfl)) (mvT hZ (hq hw 62 rfl)) (by decide) (backOfSH (s := s) (vm0 := T421.vm) (W := 0) (rm11 l Z a0 hw [] b403 b65 ta99 kb99 (1 : Int32) [(.int (nar .byte (c0.toInt8.toInt32)))] b328 ta390 kb390 (2 : Int32) [(.int (nar .byte (d0.toInt8.toInt32))), (.int (nar .byte (d1.toInt8.toInt32)))] (4 : Int32) [(.int (nar .byte (c0.toInt8.toInt32))), (.int (47 : Int32)), (.int (nar .byte (d0.toInt8.toInt32))), (.int (nar .byte (d1.toInt8.toInt32)))] cst fv T421.heap n0 z435 Ft421 Fk421 fa426 fa428 fa429 fa427 fa430 fa432 fa433 fa431 fa423 (by decide) (own_mkok (by decide) (by decide) (by decide) (by decide) (Nat.le_of_ble_eq_true rfl)) (by decide) (own_mkok (by decide) (by decide) (by decide) (by decide) (Nat.le_of_ble_eq_true rfl)) (by decide) (own_mkok (by decide) (by decide) (by decide) (by decide) (Nat.le_of_ble_eq_true rfl)) (own_cr4) (by decide) rfl SS) hZ (hq hw 64 rfl) (hq hw 35 rfl) (by decide) (by decide) hEL ch422) q438a q438c (g := (mkF m 310 #[iv p0, iv p1, iv c0, iv c1, iv c2, iv 1, iv d0, iv d1, iv d2, iv 2, rv b3, rv b30, rv b65, rv b328, .unset, .unset] [(.ref b403)])) rfl (by rw [hml]; rfl) (Steps.refl _) (argsL := []) (rest := []) (lenOf pd_23 rfl) rfl (by show 2 * 0 + _ ≤ _; exact Nat.le_of_eq rfl) (hb hby at_310) (fun _ _ => ⟨rfl, rfl, (by decide : 13 + 6 ≤ _), (by decide : 62 + 40 ≤ _)⟩)
     dsimp only [Pt.U, Pt.locs, Pt.cells, Pt.slots] at X438 l438 y438 z438 st438 hQ438 hS438 gr438 C438
     subst l438 y438 z438
     have hS := hS.trans hS438 (Nat.le_trans hk (by rw [← show T421.heap = T421.heap from rfl]; exact gr438))
     have hZ : Z.Warmed39 (s.setVm T438.vm).vm := State.Warmed39.trans hZ hS438.1
     have hown : (s.setVm T438.vm).vm.findClass "com/example/fides/fides/RecordIdToStringPinLaw" = some m.cls := by rw [show (s.setVm T438.vm).vm = T438.vm from rfl, hS438.1.alike.findClass]; exact hown
     have X438 : Stand p l e room_1 (s.setVm T438.vm) m #[(.int p0), (.int p1)] below meth c T438 _ _ _ := X438
     have hk : T438.heap.size ≤ T438.heap.size := Nat.le_refl _
     have cr439 := cr422.trans C438
     have ch439 := C438.1
     have sf439_b403 := C438.safe fa434.lt sf422_b403
     obtain ⟨s438, t438, kb438, rfl, N438q, K438, A438, Fc438, Fv438, V438⟩ := hQ438
     have N438 := Fr.app N421 N438q
     have fa440 := fa423.keep K438 all0
     have fa441 := fa424.keep K438 nin0
     have fa442 := fa425.keep K438 nin0
     have fa443 := fa426.keep K438
     have fa444 := fa427.keep K438 nin0
     have fa445 := fa428.keep K438 nin0
     have fa446 := fa429.keep K438 nin0
     have fa447 := fa430.keep K438
     have fa448 := fa431.keep K438 nin0
     have fa449 := fa432.keep K438 nin0
     have fa450 := fa433.keep K438 nin0
     have fa451 := fa434.keep K438
     have fa452 := Ft421.keep K438 nin0
     have fa453 := Fk421.keep K438 nin0
     have z454 : n0 ≤ T438.heap.size := Nat.le_trans z435 K438.1
     have kp455 : Keep h0 T438.heap [] := kp436.trans K438 all0
     have G456 : ∀ t, Steps p.tables e below (T438.setTop (mkF m 324 #[iv p0, iv p1, iv c0, iv c1, iv c2, iv 1, iv d0, iv d1, iv d2, iv 2, rv b3, rv b30, rv b65, rv b328, rv s438, iv 4] [])) t → Steps p.tables e below (s₁.setTop (entryFrame m #[(.int p0), (.int p1)] maxLocals)) t := by
      intro t kt
      refine G437 _ ?_
      refine st438.trans ?_
      refine XS.astore X438.here hx rfl (hb hby at_313) rfl rfl (l' := #[iv p0, iv p1, iv c0, iv c1, iv c2, iv 1, iv d0, iv d1, iv d2, iv 2, rv b3, rv b30, rv b65, rv b328, rv s438, .unset]) rfl ?_
      refine XS.iload X438.here hx rfl (hb hby at_315) rfl ?_
      refine XS.iconst X438.here hx rfl (hb hby at_317) ?_
      refine XS.iadd X438.here hx rfl (hb hby at_318) rfl ?_
      refine XS.iload X438.here hx rfl (hb hby at_319) rfl ?_
      refine XS.iadd X438.here hx rfl (hb hby at_321) rfl ?_
      refine XS.istore X438.here hx rfl (hb hby at_322) rfl (l' := #[iv p0, iv p1, iv c0, iv c1, iv c2, iv 1, iv d0, iv d1, iv d2, iv 2, rv b3, rv b30, rv b65, rv b328, rv s438, iv 4]) rfl ?_
      exact kt
     obtain ⟨T457, L457, X457, e457, N457, K457⟩ := own_tail (l := l) (Z := Z) (a0 := a0) (iv p0) (iv p1) (iv c0) (iv c1) (iv c2) (iv d0) (iv d1) (iv d2) (iv 2) (rv b65) (rv b328) (1 : Int32) (4 : Int32) b3 b30 s438 t438 kb438 (4 : Int32) [(.int (nar .byte (c0.toInt8.toInt32))), (.int (47 : Int32)), (.int (nar .byte (d0.toInt8.toInt32))), (.int (nar .byte (d1.toInt8.toInt32)))] k3 (3 : Int32) [(.int c0), (.int c1), (.int c2)] k30 (3 : Int32) [(.int d0), (.int d1), (.int d2)] cst fv X438 hx hZ hw hby hml hown rfl N438 z454 A438 Fc438 Fv438 V438 fa441 fa442 fa440 (by decide) (by decide) (by decide) (own_atT (xx := (nar .byte (c0.toInt8.toInt32))) (cc := c0) (by decide) (by decide) (by decide) rfl (own_lat c0 hb_c0 hp_c0) (by decide) rfl (by decide)) (own_atM (xx := (47 : Int32)) (by decide) (by decide) (by decide) rfl (by decide) (by decide) (by decide)) (own_atK (xx := (nar .byte (d0.toInt8.toInt32))) (cc := d0) (by decide) (by decide) (by decide) rfl (own_lat d0 hb_d0 hp_d0) (by decide) rfl (by decide) (by decide)) (own_atK (xx := (nar .byte (d1.toInt8.toInt32))) (cc := d1) (by decide) (by decide) (by decide) rfl (own_lat d1 hb_d1 hp_d1) (by decide) rfl (by decide) (by decide)) (own_atD (by decide)) (own_atD (by decide)) (own_atD (by decide)) SS
     have G458 : ∀ t, Steps p.tables e below (T457.setTop (mkF m 461 #[iv p0, iv p1, iv c0, iv c1, iv c2, iv 1, iv d0, iv d1, iv d2, iv 2, rv b3, rv b30, rv b65, rv b328, rv s438, iv 4] [])) t → Steps p.tables e below (s₁.setTop (entryFrame m #[(.int p0), (.int p1)] maxLocals)) t := fun t kt => G456 t (K457 t kt)
     obtain ⟨fs, hr, hrun, hended, hRW⟩ := X457.leaveW (s := s) hS (by rw [show T457.heap = T438.heap from e457]; exact hk) (v := some (.int (1 : Int32))) (fun h => by rw [Bd.returns] at h; cases h) (BodyLoose.notSynchronized Bd)
     refine ⟨_, _, G458 _ ?_, hrun, hended, _, _, rfl, ?_, hRW.1, hRW.2.1, hRW.2.2.1, hRW.2.2.2.mono (by decide) (by decide)⟩
     ·skip
      refine XS.iconst X457.here hx rfl (hb hby at_461) ?_
      refine XS.goto X457.here hx rfl (pc0 := 462) (pc' := 466) rfl (hb hby at_462) (by decide) (by decide) ?_
      exact retN X457 hx (t := .boolean) Bd.returns (by simp) (hb hby at_466) hr
     ·show Q0 Z p0 p1 cst fv h0 n0 _ T457.heap _
      rw [e457]
      exact ⟨rfl, N457⟩
   ·skip
    have G459 : ∀ t, Steps p.tables e below (T99.setTop (mkF m 197 #[iv p0, iv p1, iv c0, iv c1, iv c2, iv 1, iv d0, iv d1, iv d2, iv 3, rv b3, rv b30, rv b65, .unset, .unset, .unset] [(.int (3 : Int32))])) t → Steps p.tables e below (s₁.setTop (entryFrame m #[(.int p0), (.int p1)] maxLocals)) t := by
     intro t kt
     refine G108 _ ?_
     refine XS.iload X99.here hx rfl (hb hby at_195) rfl ?_
     exact kt
    have G460 : ∀ t, Steps p.tables e below (T99.setTop (mkF m 218 #[iv p0, iv p1, iv c0, iv c1, iv c2, iv 1, iv d0, iv d1, iv d2, iv 3, rv b3, rv b30, rv b65, .unset, .unset, .unset] [(.int (1 : Int32)), (.int (3 : Int32))])) t → Steps p.tables e below (s₁.setTop (entryFrame m #[(.int p0), (.int p1)] maxLocals)) t := by
     intro t kt
     refine G459 _ ?_
     refine XS.ifYes X99.here hx rfl (pc0 := 197) (pc' := 215) rfl (hb hby at_197) rfl ((if0 _ _).trans (feq (by decide)).2) (by decide) (by decide) ?_
     refine XS.iload X99.here hx rfl (hb hby at_215) rfl ?_
     show Steps p.tables e below (T99.setTop (mkF m 217 #[iv p0, iv p1, iv c0, iv c1, iv c2, iv 1, iv d0, iv d1, iv d2, iv 3, rv b3, rv b30, rv b65, .unset, .unset, .unset] [(.int (3 : Int32))])) _
     refine XS.iconst X99.here hx rfl (hb hby at_217) ?_
     exact kt
    have G461 : ∀ t, Steps p.tables e below (T99.setTop (mkF m 244 #[iv p0, iv p1, iv c0, iv c1, iv c2, iv 1, iv d0, iv d1, iv d2, iv 3, rv b3, rv b30, rv b65, .unset, .unset, .unset] [(.int (2 : Int32)), (.int (3 : Int32))])) t → Steps p.tables e below (s₁.setTop (entryFrame m #[(.int p0), (.int p1)] maxLocals)) t := by
     intro t kt
     refine G460 _ ?_
     refine XS.icmpYes X99.here hx rfl (pc0 := 218) (pc' := 241) rfl (hb hby at_218) rfl (feq (by decide)).2 (by decide) (by decide) ?_
     refine XS.iload X99.here hx rfl (hb hby at_241) rfl ?_
     refine XS.iconst X99.here hx rfl (hb hby at_243) ?_
     exact kt
    obtain ⟨T462, h462, X462, e462, E462, A462, D462, -, st462⟩ := newO X99 hx hZ hown (hq hw 1 rfl) (hq hw 2 rfl) (hq hw 3 rfl) rfl (g := (mkF m 272 #[iv p0, iv p1, iv c0, iv c1, iv c2, iv 1, iv d0, iv d1, iv d2, iv 3, rv b3, rv b30, rv b65, .unset, .unset, .unset] [])) rfl (hb hby at_272) (by decide) (by decide)
    obtain ⟨b462, g462⟩ : ∃ z, z = T99.heap.size := ⟨_, rfl⟩
    rw [← g462] at A462 D462 st462
    have g_b462 : n0 ≤ b462 := Nat.le_trans z106 (Nat.le_of_eq g462.symm)
    have sz_b462 : h0.size ≤ b462 := Nat.le_trans kp107.1 (Nat.le_of_eq g462.symm)
    have ne_b3_b462 : b3 ≠ b462 := Nat.ne_of_lt (Nat.lt_of_lt_of_le fa102.lt (Nat.le_of_eq g462.symm))
    have ne_b30_b462 : b30 ≠ b462 := Nat.ne_of_lt (Nat.lt_of_lt_of_le fa103.lt (Nat.le_of_eq g462.symm))
    have ne_b65_b462 : b65 ≠ b462 := Nat.ne_of_lt (Nat.lt_of_lt_of_le A99.lt (Nat.le_of_eq g462.symm))
    have ne_ta99_b462 : ta99 ≠ b462 := Nat.ne_of_lt (Nat.lt_of_lt_of_le V99.lt (Nat.le_of_eq g462.symm))
    have ch463 : CHv Z own_EL s.vm h462 := ch100.ext E462
    have cr463 : CHr Z own_EL s.vm h0 s.vm h462 := cr100.trans (CHr.ext E462 ch100)
    have sf463_b462 : Safe Z own_EL s.vm h462 b462 := Safe.ext E462 ch100 (Safe.new (Nat.le_of_eq g462.symm))
    have fa464 := fa101.ext E462
    have fa465 := fa102.ext E462
    have fa466 := fa103.ext E462
    have fa467 := A99.ext E462
    have fa468 := V99.ext E462
    have fa469 := Fc99.ext E462
    have fa470 := Fv99.ext E462
    have z471 : n0 ≤ h462.size := Nat.le_trans z106 E462.1
    have hk := Nat.le_trans hk E462.1
    have kp472 : Keep h0 h462 [] := kp107.ext E462
    have fa473 : Fld Z h462 b462 "java/lang/String" "coder" "B" (.int (0 : Int32)) := D462 (Or.inr (hq hw 27 rfl)) (ty := .byte) (by decide)
    have fa474 : Fld Z h462 b462 "java/lang/String" "value" "[B" .null := D462 (Or.inr (hq hw 29 rfl)) (ty := (.array .byte)) (by decide)
    obtain ⟨T475, h475, k475, X475, e475, E475, A475, st475⟩ := newP X462 hx hZ (hq hw 0 rfl) e462 (g := (mkF m 277 #[iv p0, iv p1, iv c0, iv c1, iv c2, iv 1, iv d0, iv d1, iv d2, iv 3, rv b3, rv b30, rv b65, .unset, .unset, .unset] [(.int (3 : Int32)), (.ref b462), (.ref b462)])) rfl (hb hby at_277) rfl (by decide) (cap := 3) (by decide) (by decide) (by decide) (by decide)
    obtain ⟨b475, g475⟩ : ∃ z, z = h462.size := ⟨_, rfl⟩
    rw [← g475] at A475 st475
    have g_b475 : n0 ≤ b475 := Nat.le_trans z471 (Nat.le_of_eq g475.symm)
    have sz_b475 : h0.size ≤ b475 := Nat.le_trans kp472.1 (Nat.le_of_eq g475.symm)
    have ne_b3_b475 : b3 ≠ b475 := Nat.ne_of_lt (Nat.lt_of_lt_of_le fa465.lt (Nat.le_of_eq g475.symm))
    have ne_b30_b475 : b30 ≠ b475 := Nat.ne_of_lt (Nat.lt_of_lt_of_le fa466.lt (Nat.le_of_eq g475.symm))
    have ne_b65_b475 : b65 ≠ b475 := Nat.ne_of_lt (Nat.lt_of_lt_of_le fa467.lt (Nat.le_of_eq g475.symm))
    have ne_ta99_b475 : ta99 ≠ b475 := Nat.ne_of_lt (Nat.lt_of_lt_of_le fa468.lt (Nat.le_of_eq g475.symm))
    have ne_b462_b475 : b462 ≠ b475 := Nat.ne_of_lt (Nat.lt_of_lt_of_le A462.lt (Nat.le_of_eq g475.symm))
    have ch476 : CHv Z own_EL s.vm h475 := ch463.ext E475
    have cr476 : CHr Z own_EL s.vm h0 s.vm h475 := cr463.trans (CHr.ext E475 ch463)
    have sf476_b462 : Safe Z own_EL s.vm h475 b462 := Safe.ext E475 ch463 sf463_b462
    have sf476_b475 : Safe Z own_EL s.vm h475 b475 := Safe.ext E475 ch463 (Safe.new (Nat.le_of_eq g475.symm))
    have fa477 := fa464.ext E475
    have fa478 := fa465.ext E475
    have fa479 := fa466.ext E475
    have fa480 := fa467.ext E475
    have fa481 := fa468.ext E475
    have fa482 := fa469.ext E475
    have fa483 := fa470.ext E475
    have fa484 := A462.ext E475
    have fa485 := fa473.ext E475
    have fa486 := fa474.ext E475
    have z487 : n0 ≤ h475.size := Nat.le_trans z471 E475.1
    have hk := Nat.le_trans hk E475.1
    have kp488 : Keep h0 h475 [] := kp472.ext E475
    have fa489 : Arv Z h475 b475 k475 .char (3 : Int32) [(.int (0 : Int32)), (.int (0 : Int32)), (.int (0 : Int32))] (.int (0 : Int32)) := (Arv.new A475 (by decide)).pad (pad_rep [] (.int (0 : Int32)) 3)
    obtain ⟨cl490, Ar490, q490, S490, M490, H490, G490⟩ := id fa489
    have hin490 : ¬ ((0 : Int32) < 0 ∨ cl490.slots.size ≤ ((0 : Int32)).toNatClampNeg) := inb_of S490 ⟨by decide, by decide⟩
    obtain ⟨T491, h491, X491, e491, W491, st491⟩ := stC X475 hx hZ e475 Ar490 (j := (0 : Int32)) hin490 (g := (mkF m 283 #[iv p0, iv p1, iv c0, iv c1, iv c2, iv 1, iv d0, iv d1, iv d2, iv 3, rv b3, rv b30, rv b65, .unset, .unset, .unset] [(.int d0), (.int (0 : Int32)), (.ref b475), (.ref b475), (.ref b462), (.ref b462)])) rfl rfl (hb hby at_283)
    have ch492 : CHv Z own_EL s.vm h491 := ch476.wr W491 sf476_b475
    have cr492 : CHr Z own_EL s.vm h0 s.vm h491 := cr476.trans (CHr.wr W491 sf476_b475 ch476)
    have sf492_b462 : Safe Z own_EL s.vm h491 b462 := Safe.wr W491 sf476_b475 ch476 sf476_b462
    have sf492_b475 : Safe Z own_EL s.vm h491 b475 := Safe.wr W491 sf476_b475 ch476 sf476_b475
    have fa493 := fa477.wr W491 g_b475
    have fa494 := fa478.other W491 ne_b3_b475
    have fa495 := fa479.other W491 ne_b30_b475
    have fa496 := fa480.wr W491
    have fa497 := fa481.other W491 ne_ta99_b475
    have fa498 := fa482.other W491 (Or.inl ne_b65_b475)
    have fa499 := fa483.other W491 (Or.inl ne_b65_b475)
    have fa500 := fa484.wr W491
    have fa501 := fa485.other W491 (Or.inl ne_b462_b475)
    have fa502 := fa486.other W491 (Or.inl ne_b462_b475)
    have z503 : n0 ≤ h491.size := Nat.le_trans z487 (Nat.le_of_eq W491.size.symm)
    have hk := Nat.le_trans hk (Nat.le_of_eq W491.size.symm)
    have kp504 : Keep h0 h491 [] := kp488.wr W491 (Or.inr sz_b475)
    have fa505 : Arv Z h491 b475 k475 .char (3 : Int32) [(.int (nar .char d0)), (.int (0 : Int32)), (.int (0 : Int32))] (.int (0 : Int32)) := Arv.set Ar490 q490 S490 M490 H490 G490 (fits_nar_char _) W491 0 rfl (Nat.le_of_ble_eq_true rfl)
    have N491 := Fr.snoc X491 N99 g_b475
    obtain ⟨cl506, Ar506, q506, S506, M506, H506, G506⟩ := id fa505
    have hin506 : ¬ ((1 : Int32) < 0 ∨ cl506.slots.size ≤ ((1 : Int32)).toNatClampNeg) := inb_of S506 ⟨by decide, by decide⟩
    obtain ⟨T507, h507, X507, e507, W507, st507⟩ := stC X491 hx hZ e491 Ar506 (j := (1 : Int32)) hin506 (g := (mkF m 288 #[iv p0, iv p1, iv c0, iv c1, iv c2, iv 1, iv d0, iv d1, iv d2, iv 3, rv b3, rv b30, rv b65, .unset, .unset, .unset] [(.int d1), (.int (1 : Int32)), (.ref b475), (.ref b475), (.ref b462), (.ref b462)])) rfl rfl (hb hby at_288)
    have ch508 : CHv Z own_EL s.vm h507 := ch492.wr W507 sf492_b475
    have cr508 : CHr Z own_EL s.vm h0 s.vm h507 := cr492.trans (CHr.wr W507 sf492_b475 ch492)
    have sf508_b462 : Safe Z own_EL s.vm h507 b462 := Safe.wr W507 sf492_b475 ch492 sf492_b462
    have sf508_b475 : Safe Z own_EL s.vm h507 b475 := Safe.wr W507 sf492_b475 ch492 sf492_b475
    have fa509 := fa493.wr W507 g_b475
    have fa510 := fa494.other W507 ne_b3_b475
    have fa511 := fa495.other W507 ne_b30_b475
    have fa512 := fa496.wr W507
    have fa513 := fa497.other W507 ne_ta99_b475
    have fa514 := fa498.other W507 (Or.inl ne_b65_b475)
    have fa515 := fa499.other W507 (Or.inl ne_b65_b475)
    have fa516 := fa500.wr W507
    have fa517 := fa501.other W507 (Or.inl ne_b462_b475)
    have fa518 := fa502.other W507 (Or.inl ne_b462_b475)
    have z519 : n0 ≤ h507.size := Nat.le_trans z503 (Nat.le_of_eq W507.size.symm)
    have hk := Nat.le_trans hk (Nat.le_of_eq W507.size.symm)
    have kp520 : Keep h0 h507 [] := kp504.wr W507 (Or.inr sz_b475)
    have fa521 : Arv Z h507 b475 k475 .char (3 : Int32) [(.int (nar .char d0)), (.int (nar .char d1)), (.int (0 : Int32))] (.int (0 : Int32)) := Arv.set Ar506 q506 S506 M506 H506 G506 (fits_nar_char _) W507 1 rfl (Nat.le_of_ble_eq_true rfl)
    have N507 := Fr.snoc X507 N491 g_b475
    obtain ⟨cl522, Ar522, q522, S522, M522, H522, G522⟩ := id fa521
    have hin522 : ¬ ((2 : Int32) < 0 ∨ cl522.slots.size ≤ ((2 : Int32)).toNatClampNeg) := inb_of S522 ⟨by decide, by decide⟩
    obtain ⟨T523, h523, X523, e523, W523, st523⟩ := stC X507 hx hZ e507 Ar522 (j := (2 : Int32)) hin522 (g := (mkF m 293 #[iv p0, iv p1, iv c0, iv c1, iv c2, iv 1, iv d0, iv d1, iv d2, iv 3, rv b3, rv b30, rv b65, .unset, .unset, .unset] [(.int d2), (.int (2 : Int32)), (.ref b475), (.ref b475), (.ref b462), (.ref b462)])) rfl rfl (hb hby at_293)
    have ch524 : CHv Z own_EL s.vm h523 := ch508.wr W523 sf508_b475
    have cr524 : CHr Z own_EL s.vm h0 s.vm h523 := cr508.trans (CHr.wr W523 sf508_b475 ch508)
    have sf524_b462 : Safe Z own_EL s.vm h523 b462 := Safe.wr W523 sf508_b475 ch508 sf508_b462
    have sf524_b475 : Safe Z own_EL s.vm h523 b475 := Safe.wr W523 sf508_b475 ch508 sf508_b475
    have fa525 := fa509.wr W523 g_b475
    have fa526 := fa510.other W523 ne_b3_b475
    have fa527 := fa511.other W523 ne_b30_b475
    have fa528 := fa512.wr W523
    have fa529 := fa513.other W523 ne_ta99_b475
    have fa530 := fa514.other W523 (Or.inl ne_b65_b475)
    have fa531 := fa515.other W523 (Or.inl ne_b65_b475)
    have fa532 := fa516.wr W523
    have fa533 := fa517.other W523 (Or.inl ne_b462_b475)
    have fa534 := fa518.other W523 (Or.inl ne_b462_b475)
    have z535 : n0 ≤ h523.size := Nat.le_trans z519 (Nat.le_of_eq W523.size.symm)
    have hk := Nat.le_trans hk (Nat.le_of_eq W523.size.symm)
    have kp536 : Keep h0 h523 [] := kp520.wr W523 (Or.inr sz_b475)
    have fa537 : Arv Z h523 b475 k475 .char (3 : Int32) [(.int (nar .char d0)), (.int (nar .char d1)), (.int (nar .char d2))] (.int (0 : Int32)) := Arv.set Ar522 q522 S522 M522 H522 G522 (fits_nar_char _) W523 2 rfl (Nat.le_of_ble_eq_true rfl)
    have N523 := Fr.snoc X523 N507 g_b475
    have fa538 : Arv Z h523 b475 k475 .char (3 : Int32) [(.int d0), (.int d1), (.int d2)] (.int (0 : Int32)) := by have q := fa537; rw [own_narc d0 hb_d0, own_narc d1 hb_d1, own_narc d2 hb_d2] at q; exact q
    have G539 : ∀ t, Steps p.tables e below (T523.setTop (mkF m 294 #[iv p0, iv p1, iv c0, iv c1, iv c2, iv 1, iv d0, iv d1, iv d2, iv 3, rv b3, rv b30, rv b65, .unset, .unset, .unset] [(.ref b475), (.ref b462), (.ref b462)])) t → Steps p.tables e below (s₁.setTop (entryFrame m #[(.int p0), (.int p1)] maxLocals)) t := by
     intro t kt
     refine G461 _ ?_
     refine XS.icmpYes X99.here hx rfl (pc0 := 244) (pc' := 272) rfl (hb hby at_244) rfl (feq (by decide)).2 (by decide) (by decide) ?_
     refine st462 _ ?_
     refine XS.dup X462.here hx rfl (hb hby at_275) rfl rfl ?_
     refine XS.iconst X462.here hx rfl (hb hby at_276) ?_
     refine st475 _ ?_
     refine XS.dup X475.here hx rfl (hb hby at_279) rfl rfl ?_
     refine XS.iconst X475.here hx rfl (hb hby at_280) ?_
     refine XS.iload X475.here hx rfl (hb hby at_281) rfl ?_
     refine st491 _ ?_
     refine XS.dup X491.here hx rfl (hb hby at_284) rfl rfl ?_
     refine XS.iconst X491.here hx rfl (hb hby at_285) ?_
     refine XS.iload X491.here hx rfl (hb hby at_286) rfl ?_
     refine st507 _ ?_
     refine XS.dup X507.here hx rfl (hb hby at_289) rfl rfl ?_
     refine XS.iconst X507.here hx rfl (hb hby at_290) ?_
     refine XS.iload X507.here hx rfl (hb hby at_291) rfl ?_
     refine st523 _ ?_
     exact kt
    obtain ⟨_, _, ⟨T540, L540, k540, n540⟩, -, X540, ⟨Lc540, hQ540, l540, y540, z540⟩, st540⟩ := X523.specialBack hx (y := (⟨"java/lang/String", "<init>", "([C)V"⟩ : MethodName)) rfl hown (mvT hZ (hq hw 4 rfl)) (mvT hZ (hq hw 5 rfl)) (mvT hZ (hq hw 6 rfl)) (by decide) (backOf (W := 1) (rmSF_3 l Z a0 hw [] b462 b475 d0 d1 d2 k475 cst fv h523 n0 z535 fa532 fa534 fa533 fa538 fa525 g_b462 ne_b462_b475 hb_d0 hb_d1 hb_d2 hp_d0 hp_d1 hp_d2 SS) hZ (hq hw 6 rfl) (hq hw 3 rfl) (by decide) (by decide)) (g := (mkF m 294 #[iv p0, iv p1, iv c0, iv c1, iv c2, iv 1, iv d0, iv d1, iv d2, iv 3, rv b3, rv b30, rv b65, .unset, .unset, .unset] [(.ref b475), (.ref b462), (.ref b462)])) rfl (by rw [hml]; rfl) (Steps.refl _) (a := b462) (argsL := [(.ref b475)]) (rest := [(.ref b462)]) (lenOf pd_26 rfl) rfl (by show 2 * 0 + _ ≤ _; exact Nat.le_of_eq rfl) (hb hby at_294) (fun _ _ => ⟨rfl, e523, (by decide : 7 + 1 ≤ _), (by decide : 19 + 3 ≤ _)⟩)
    dsimp only [Pt.U, Pt.locs, Pt.cells, Pt.slots] at X540 l540 y540 z540 st540 hQ540
    subst l540 y540 z540
    rcases hQ540 with ⟨rfl, N540q, K540, A540, hq540, Fc540, ta540, kb540, Fv540, sz540, g_ta540, V540⟩
    ·skip
     have N540 := Fr.app N523 N540q
     have szk540 : h0.size ≤ ta540 := Nat.le_trans kp536.1 sz540
     have ne_b3_ta540 : b3 ≠ ta540 := Nat.ne_of_lt (Nat.lt_of_lt_of_le fa526.lt sz540)
     have ne_b30_ta540 : b30 ≠ ta540 := Nat.ne_of_lt (Nat.lt_of_lt_of_le fa527.lt sz540)
     have ne_b65_ta540 : b65 ≠ ta540 := Nat.ne_of_lt (Nat.lt_of_lt_of_le fa528.lt sz540)
     have ne_ta99_ta540 : ta99 ≠ ta540 := Nat.ne_of_lt (Nat.lt_of_lt_of_le fa529.lt sz540)
     have ne_b462_ta540 : b462 ≠ ta540 := Nat.ne_of_lt (Nat.lt_of_lt_of_le fa532.lt sz540)
     have ne_b475_ta540 : b475 ≠ ta540 := Nat.ne_of_lt (Nat.lt_of_lt_of_le fa538.lt sz540)
     have ch541 : CHv Z own_EL s.vm T540.heap := ch524.keep K540 (allS sf524_b462 all0)
     have cr541 : CHr Z own_EL s.vm h0 s.vm T540.heap := cr524.trans (CHr.keep K540 (allS sf524_b462 all0) ch524)
     have sf541_b462 : Safe Z own_EL s.vm T540.heap b462 := Safe.keep K540 (allS sf524_b462 all0) ch524 sf524_b462
     have sf541_b475 : Safe Z own_EL s.vm T540.heap b475 := Safe.keep K540 (allS sf524_b462 all0) ch524 sf524_b475
     have fa542 := fa525.keep K540 (allS g_b462 all0)
     have fa543 := fa526.keep K540 (ninS ne_b3_b462 nin0)
     have fa544 := fa527.keep K540 (ninS ne_b30_b462 nin0)
     have fa545 := fa528.keep K540
     have fa546 := fa529.keep K540 (ninS ne_ta99_b462 nin0)
     have fa547 := fa530.keep K540 (ninS ne_b65_b462 nin0)
     have fa548 := fa531.keep K540 (ninS ne_b65_b462 nin0)
     have fa549 := fa532.keep K540
     have fa550 := fa538.keep K540 (ninS (Ne.symm ne_b462_b475) nin0)
     have z551 : n0 ≤ T540.heap.size := Nat.le_trans z535 K540.1
     have hk := Nat.le_trans hk K540.1
     have kp552 : Keep h0 T540.heap [] := kp536.trans K540 (allS (Or.inr sz_b462) all0)
     obtain ⟨T553, h553, X553, e553, E553, A553, D553, -, st553⟩ := newO X540 hx hZ hown (hq hw 33 rfl) (hq hw 34 rfl) (hq hw 35 rfl) rfl (g := (mkF m 299 #[iv p0, iv p1, iv c0, iv c1, iv c2, iv 1, iv d0, iv d1, iv d2, iv 3, rv b3, rv b30, rv b65, rv b462, .unset, .unset] [])) rfl (hb hby at_299) (by decide) (by decide)
     obtain ⟨b553, g553⟩ : ∃ z, z = T540.heap.size := ⟨_, rfl⟩
     rw [← g553] at A553 D553 st553
     have g_b553 : n0 ≤ b553 := Nat.le_trans z551 (Nat.le_of_eq g553.symm)
     have sz_b553 : h0.size ≤ b553 := Nat.le_trans kp552.1 (Nat.le_of_eq g553.symm)
     have ne_b3_b553 : b3 ≠ b553 := Nat.ne_of_lt (Nat.lt_of_lt_of_le fa543.lt (Nat.le_of_eq g553.symm))
     have ne_b30_b553 : b30 ≠ b553 := Nat.ne_of_lt (Nat.lt_of_lt_of_le fa544.lt (Nat.le_of_eq g553.symm))
     have ne_b65_b553 : b65 ≠ b553 := Nat.ne_of_lt (Nat.lt_of_lt_of_le fa545.lt (Nat.le_of_eq g553.symm))
     have ne_ta99_b553 : ta99 ≠ b553 := Nat.ne_of_lt (Nat.lt_of_lt_of_le fa546.lt (Nat.le_of_eq g553.symm))
     have ne_b462_b553 : b462 ≠ b553 := Nat.ne_of_lt (Nat.lt_of_lt_of_le A540.lt (Nat.le_of_eq g553.symm))
     have ne_ta540_b553 : ta540 ≠ b553 := Nat.ne_of_lt (Nat.lt_of_lt_of_le V540.lt (Nat.le_of_eq g553.symm))
     have ch554 : CHv Z own_EL s.vm h553 := ch541.ext E553
     have cr554 : CHr Z own_EL s.vm h0 s.vm h553 := cr541.trans (CHr.ext E553 ch541)
     have sf554_b553 : Safe Z own_EL s.vm h553 b553 := Safe.ext E553 ch541 (Safe.new (Nat.le_of_eq g553.symm))
     have fa555 := fa542.ext E553
     have fa556 := fa543.ext E553
     have fa557 := fa544.ext E553
     have fa558 := fa545.ext E553
     have fa559 := fa546.ext E553
     have fa560 := fa547.ext E553
     have fa561 := fa548.ext E553
     have fa562 := A540.ext E553
     have fa563 := V540.ext E553
     have fa564 := Fc540.ext E553
     have fa565 := Fv540.ext E553
     have z566 : n0 ≤ h553.size := Nat.le_trans z551 E553.1
     have hk := Nat.le_trans hk E553.1
     have kp567 : Keep h0 h553 [] := kp552.ext E553
     have fa568 : Fld Z h553 b553 "com/example/fides/fides/RecordId" "table" "Ljava/lang/String;" .null := D553 (Or.inr (hq hw 57 rfl)) (ty := (.object "java/lang/String")) (by decide)
     have fa569 : Fld Z h553 b553 "com/example/fides/fides/RecordId" "key" "Ljava/lang/String;" .null := D553 (Or.inr (hq hw 59 rfl)) (ty := (.object "java/lang/String")) (by decide)
     have G570 : ∀ t, Steps p.tables e below (T553.setTop (mkF m 307 #[iv p0, iv p1, iv c0, iv c1, iv c2, iv 1, iv d0, iv d1, iv d2, iv 3, rv b3, rv b30, rv b65, rv b462, .unset, .unset] [(.ref b462), (.ref b65), (.ref b553), (.ref b553)])) t → Steps p.tables e below (s₁.setTop (entryFrame m #[(.int p0), (.int p1)] maxLocals)) t := by
      intro t kt
      refine G539 _ ?_
      refine st540.trans ?_
      show Steps p.tables e below (T540.setTop (mkF m 297 #[iv p0, iv p1, iv c0, iv c1, iv c2, iv 1, iv d0, iv d1, iv d2, iv 3, rv b3, rv b30, rv b65, .unset, .unset, .unset] [(.ref b462)])) _
      refine XS.astore X540.here hx rfl (hb hby at_297) rfl rfl (l' := #[iv p0, iv p1, iv c0, iv c1, iv c2, iv 1, iv d0, iv d1, iv d2, iv 3, rv b3, rv b30, rv b65, rv b462, .unset, .unset]) rfl ?_
      refine st553 _ ?_
      refine XS.dup X553.here hx rfl (hb hby at_302) rfl rfl ?_
      refine XS.aload X553.here hx rfl (hb hby at_303) rfl rfl ?_
      refine XS.aload X553.here hx rfl (hb hby at_305) rfl rfl ?_
      exact kt
     obtain ⟨_, vm571, ⟨T571, L571, k571, n571⟩, -, X571, hS571, gr571, ⟨Lc571, hQ571, l571, y571, z571, C571⟩, st571⟩ := X553.specialBackS hx (y := (⟨"com/example/fides/fides/RecordId", "<init>", "(Ljava/lang/String;Ljava/lang/String;)V"⟩ : MethodName)) rfl hown (mvT hZ (hq hw 36 rfl)) (mvT hZ (hq hw 37 rfl)) (mvT hZ (hq hw 38 rfl)) (by decide) (backOfSH (s := s) (vm0 := s.vm) (W := 1) (rm7 l Z a0 hw [] b553 b65 b462 ta99 kb99 (1 : Int32) [(.int (nar .byte (c0.toInt8.toInt32)))] h553 n0 z566 A553 fa568 fa569 fa558 fa561 fa559 g_b553 (Ne.symm ne_b65_b553) (Ne.symm ne_ta99_b553) (by decide)) hZ (hq hw 38 rfl) (hq hw 35 rfl) (by decide) (by decide) hEL ch554) (g := (mkF m 307 #[iv p0, iv p1, iv c0, iv c1, iv c2, iv 1, iv d0, iv d1, iv d2, iv 3, rv b3, rv b30, rv b65, rv b462, .unset, .unset] [(.ref b462), (.ref b65), (.ref b553), (.ref b553)])) rfl (by rw [hml]; rfl) (Steps.refl _) (a := b553) (argsL := [(.ref b65), (.ref b462)]) (rest := [(.ref b553)]) (lenOf pd_27 rfl) rfl (by show 2 * 0 + _ ≤ _; exact Nat.le_of_eq rfl) (hb hby at_307) (fun _ _ => ⟨rfl, e553, (by decide : 9 + 4 ≤ _), (by decide : 24 + 40 ≤ _)⟩)
     dsimp only [Pt.U, Pt.locs, Pt.cells, Pt.slots] at X571 l571 y571 z571 st571 hQ571 hS571 gr571 C571
     subst l571 y571 z571
     have hS := hS.trans hS571 (Nat.le_trans hk (by rw [← show T553.heap = h553 from e553]; exact gr571))
     have hZ : Z.Warmed39 (s.setVm T571.vm).vm := State.Warmed39.trans hZ hS571.1
     have hown : (s.setVm T571.vm).vm.findClass "com/example/fides/fides/RecordIdToStringPinLaw" = some m.cls := by rw [show (s.setVm T571.vm).vm = T571.vm from rfl, hS571.1.alike.findClass]; exact hown
     have X571 : Stand p l e room_1 (s.setVm T571.vm) m #[(.int p0), (.int p1)] below meth c T571 _ _ _ := X571
     have hk : T571.heap.size ≤ T571.heap.size := Nat.le_refl _
     have cr572 := cr554.trans C571
     have ch572 := C571.1
     have sf572_b553 := C571.safe A553.lt sf554_b553
     obtain ⟨rfl, N571q, K571, Ft571, Fk571⟩ := hQ571
     have N571 := Fr.app N540 N571q
     have fa573 := fa555.keep K571 (allS g_b553 all0)
     have fa574 := fa556.keep K571 (ninS ne_b3_b553 nin0)
     have fa575 := fa557.keep K571 (ninS ne_b30_b553 nin0)
     have fa576 := fa558.keep K571
     have fa577 := fa559.keep K571 (ninS ne_ta99_b553 nin0)
     have fa578 := fa560.keep K571 (ninS ne_b65_b553 nin0)
     have fa579 := fa561.keep K571 (ninS ne_b65_b553 nin0)
     have fa580 := fa562.keep K571
     have fa581 := fa563.keep K571 (ninS ne_ta540_b553 nin0)
     have fa582 := fa564.keep K571 (ninS ne_b462_b553 nin0)
     have fa583 := fa565.keep K571 (ninS ne_b462_b553 nin0)
     have fa584 := A553.keep K571
     have z585 : n0 ≤ T571.heap.size := Nat.le_trans z566 K571.1
     have kp586 : Keep h0 T571.heap [] := kp567.trans K571 (allS (Or.inr sz_b553) all0)
     have G587 : ∀ t, Steps p.tables e below (T571.setTop (mkF m 310 #[iv p0, iv p1, iv c0, iv c1, iv c2, iv 1, iv d0, iv d1, iv d2, iv 3, rv b3, rv b30, rv b65, rv b462, .unset, .unset] [(.ref b553)])) t → Steps p.tables e below (s₁.setTop (entryFrame m #[(.int p0), (.int p1)] maxLocals)) t := by
      intro t kt
      refine G570 _ ?_
      refine st571.trans ?_
      exact kt
     obtain ⟨cq588, kq588, q588a, q588b, q588c⟩ := isOf hZ rfl fa584
     obtain ⟨_, vm588, ⟨T588, L588, k588, n588⟩, -, X588, hS588, gr588, ⟨Lc588, hQ588, l588, y588, z588, C588⟩, st588⟩ := X571.virtualBackS hx (y := (⟨"com/example/fides/fides/RecordId", "toString", "()Ljava/lang/String;"⟩ : MethodName)) (z := (⟨"com/example/fides/fides/RecordId", "toString", "()Ljava/lang/String;"⟩ : MethodName)) hown (mvT hZ (hq hw 60 rfl)) (mvT hZ (hq hw 61 rfl)) (notFace_of_selects (args := #[]) (mvT hZ (hq hw 63 rfl))) (mvT hZ (hq hw 63 rfl)) (mvT hZ (hq hw 62 rfl)) (by decide) (backOfSH (s := s) (vm0 := T571.vm) (W := 0) (rm11 l Z a0 hw [] b553 b65 ta99 kb99 (1 : Int32) [(.int (nar .byte (c0.toInt8.toInt32)))] b462 ta540 kb540 (3 : Int32) [(.int (nar .byte (d0.toInt8.toInt32))), (.int (nar .byte (d1.toInt8.toInt32))), (.int (nar .byte (d2.toInt8.toInt32)))] (5 : Int32) [(.int (nar .byte (c0.toInt8.toInt32))), (.int (47 : Int32)), (.int (nar .byte (d0.toInt8.toInt32))), (.int (nar .byte (d1.toInt8.toInt32))), (.int (nar .byte (d2.toInt8.toInt32)))] cst fv T571.heap n0 z585 Ft571 Fk571 fa576 fa578 fa579 fa577 fa580 fa582 fa583 fa581 fa573 (by decide) (own_mkok (by decide) (by decide) (by decide) (by decide) (Nat.le_of_ble_eq_true rfl)) (by decide) (own_mkok (by decide) (by decide) (by decide) (by decide) (Nat.le_of_ble_eq_true rfl)) (by decide) (own_mkok (by decide) (by decide) (by decide) (by decide) (Nat.le_of_ble_eq_true rfl)) (own_cr5) (by decide) rfl SS) hZ (hq hw 64 rfl) (hq hw 35 rfl) (by decide) (by decide) hEL ch572) q588a q588c (g := (mkF m 310 #[iv p0, iv p1, iv c0, iv c1, iv c2, iv 1, iv d0, iv d1, iv d2, iv 3, rv b3, rv b30, rv b65, rv b462, .unset, .unset] [(.ref b553)])) rfl (by rw [hml]; rfl) (Steps.refl _) (argsL := []) (rest := []) (lenOf pd_23 rfl) rfl (by show 2 * 0 + _ ≤ _; exact Nat.le_of_eq rfl) (hb hby at_310) (fun _ _ => ⟨rfl, rfl, (by decide : 13 + 6 ≤ _), (by decide : 64 + 40 ≤ _)⟩)
     dsimp only [Pt.U, Pt.locs, Pt.cells, Pt.slots] at X588 l588 y588 z588 st588 hQ588 hS588 gr588 C588
     subst l588 y588 z588
     have hS := hS.trans hS588 (Nat.le_trans hk (by rw [← show T571.heap = T571.heap from rfl]; exact gr588))
     have hZ : Z.Warmed39 (s.setVm T588.vm).vm := State.Warmed39.trans hZ hS588.1
     have hown : (s.setVm T588.vm).vm.findClass "com/example/fides/fides/RecordIdToStringPinLaw" = some m.cls := by rw [show (s.setVm T588.vm).vm = T588.vm from rfl, hS588.1.alike.findClass]; exact hown
     have X588 : Stand p l e room_1 (s.setVm T588.vm) m #[(.int p0), (.int p1)] below meth c T588 _ _ _ := X588
     have hk : T588.heap.size ≤ T588.heap.size := Nat.le_refl _
     have cr589 := cr572.trans C588
     have ch589 := C588.1
     have sf589_b553 := C588.safe fa584.lt sf572_b553
     obtain ⟨s588, t588, kb588, rfl, N588q, K588, A588, Fc588, Fv588, V588⟩ := hQ588
     have N588 := Fr.app N571 N588q
     have fa590 := fa573.keep K588 all0
     have fa591 := fa574.keep K588 nin0
     have fa592 := fa575.keep K588 nin0
     have fa593 := fa576.keep K588
     have fa594 := fa577.keep K588 nin0
     have fa595 := fa578.keep K588 nin0
     have fa596 := fa579.keep K588 nin0
     have fa597 := fa580.keep K588
     have fa598 := fa581.keep K588 nin0
     have fa599 := fa582.keep K588 nin0
     have fa600 := fa583.keep K588 nin0
     have fa601 := fa584.keep K588
     have fa602 := Ft571.keep K588 nin0
     have fa603 := Fk571.keep K588 nin0
     have z604 : n0 ≤ T588.heap.size := Nat.le_trans z585 K588.1
     have kp605 : Keep h0 T588.heap [] := kp586.trans K588 all0
     have G606 : ∀ t, Steps p.tables e below (T588.setTop (mkF m 324 #[iv p0, iv p1, iv c0, iv c1, iv c2, iv 1, iv d0, iv d1, iv d2, iv 3, rv b3, rv b30, rv b65, rv b462, rv s588, iv 5] [])) t → Steps p.tables e below (s₁.setTop (entryFrame m #[(.int p0), (.int p1)] maxLocals)) t := by
      intro t kt
      refine G587 _ ?_
      refine st588.trans ?_
      refine XS.astore X588.here hx rfl (hb hby at_313) rfl rfl (l' := #[iv p0, iv p1, iv c0, iv c1, iv c2, iv 1, iv d0, iv d1, iv d2, iv 3, rv b3, rv b30, rv b65, rv b462, rv s588, .unset]) rfl ?_
      refine XS.iload X588.here hx rfl (hb hby at_315) rfl ?_
      refine XS.iconst X588.here hx rfl (hb hby at_317) ?_
      refine XS.iadd X588.here hx rfl (hb hby at_318) rfl ?_
      refine XS.iload X588.here hx rfl (hb hby at_319) rfl ?_
      refine XS.iadd X588.here hx rfl (hb hby at_321) rfl ?_
      refine XS.istore X588.here hx rfl (hb hby at_322) rfl (l' := #[iv p0, iv p1, iv c0, iv c1, iv c2, iv 1, iv d0, iv d1, iv d2, iv 3, rv b3, rv b30, rv b65, rv b462, rv s588, iv 5]) rfl ?_
      exact kt
     obtain ⟨T607, L607, X607, e607, N607, K607⟩ := own_tail (l := l) (Z := Z) (a0 := a0) (iv p0) (iv p1) (iv c0) (iv c1) (iv c2) (iv d0) (iv d1) (iv d2) (iv 3) (rv b65) (rv b462) (1 : Int32) (5 : Int32) b3 b30 s588 t588 kb588 (5 : Int32) [(.int (nar .byte (c0.toInt8.toInt32))), (.int (47 : Int32)), (.int (nar .byte (d0.toInt8.toInt32))), (.int (nar .byte (d1.toInt8.toInt32))), (.int (nar .byte (d2.toInt8.toInt32)))] k3 (3 : Int32) [(.int c0), (.int c1), (.int c2)] k30 (3 : Int32) [(.int d0), (.int d1), (.int d2)] cst fv X588 hx hZ hw hby hml hown rfl N588 z604 A588 Fc588 Fv588 V588 fa591 fa592 fa590 (by decide) (by decide) (by decide) (own_atT (xx := (nar .byte (c0.toInt8.toInt32))) (cc := c0) (by decide) (by decide) (by decide) rfl (own_lat c0 hb_c0 hp_c0) (by decide) rfl (by decide)) (own_atM (xx := (47 : Int32)) (by decide) (by decide) (by decide) rfl (by decide) (by decide) (by decide)) (own_atK (xx := (nar .byte (d0.toInt8.toInt32))) (cc := d0) (by decide) (by decide) (by decide) rfl (own_lat d0 hb_d0 hp_d0) (by decide) rfl (by decide) (by decide)) (own_atK (xx := (nar .byte (d1.toInt8.toInt32))) (cc := d1) (by decide) (by decide) (by decide) rfl (own_lat d1 hb_d1 hp_d1) (by decide) rfl (by decide) (by decide)) (own_atK (xx := (nar .byte (d2.toInt8.toInt32))) (cc := d2) (by decide) (by decide) (by decide) rfl (own_lat d2 hb_d2 hp_d2) (by decide) rfl (by decide) (by decide)) (own_atD (by decide)) (own_atD (by decide)) SS
     have G608 : ∀ t, Steps p.tables e below (T607.setTop (mkF m 461 #[iv p0, iv p1, iv c0, iv c1, iv c2, iv 1, iv d0, iv d1, iv d2, iv 3, rv b3, rv b30, rv b65, rv b462, rv s588, iv 5] [])) t → Steps p.tables e below (s₁.setTop (entryFrame m #[(.int p0), (.int p1)] maxLocals)) t := fun t kt => G606 t (K607 t kt)
     obtain ⟨fs, hr, hrun, hended, hRW⟩ := X607.leaveW (s := s) hS (by rw [show T607.heap = T588.heap from e607]; exact hk) (v := some (.int (1 : Int32))) (fun h => by rw [Bd.returns] at h; cases h) (BodyLoose.notSynchronized Bd)
     refine ⟨_, _, G608 _ ?_, hrun, hended, _, _, rfl, ?_, hRW.1, hRW.2.1, hRW.2.2.1, hRW.2.2.2.mono (by decide) (by decide)⟩
     ·skip
      refine XS.iconst X607.here hx rfl (hb hby at_461) ?_
      refine XS.goto X607.here hx rfl (pc0 := 462) (pc' := 466) rfl (hb hby at_462) (by decide) (by decide) ?_
      exact retN X607 hx (t := .boolean) Bd.returns (by simp) (hb hby at_466) hr
     ·show Q0 Z p0 p1 cst fv h0 n0 _ T607.heap _
      rw [e607]
      exact ⟨rfl, N607⟩
 ·skip
  have G609 : ∀ t, Steps p.tables e below (T54.setTop (mkF m 119 #[iv p0, iv p1, iv c0, iv c1, iv c2, iv 2, iv d0, iv d1, iv d2, iv u2, rv b3, rv b30, .unset, .unset, .unset, .unset] [(.int (1 : Int32)), (.int (2 : Int32))])) t → Steps p.tables e below (s₁.setTop (entryFrame m #[(.int p0), (.int p1)] maxLocals)) t := by
   intro t kt
   refine G61 _ ?_
   refine XS.iload X54.here hx rfl (hb hby at_116) rfl ?_
   refine XS.iconst X54.here hx rfl (hb hby at_118) ?_
   exact kt
  have G610 : ∀ t, Steps p.tables e below (T54.setTop (mkF m 144 #[iv p0, iv p1, iv c0, iv c1, iv c2, iv 2, iv d0, iv d1, iv d2, iv u2, rv b3, rv b30, .unset, .unset, .unset, .unset] [(.int (2 : Int32)), (.int (2 : Int32))])) t → Steps p.tables e below (s₁.setTop (entryFrame m #[(.int p0), (.int p1)] maxLocals)) t := by
   intro t kt
   refine G609 _ ?_
   refine XS.icmpYes X54.here hx rfl (pc0 := 119) (pc' := 141) rfl (hb hby at_119) rfl (feq (by decide)).2 (by decide) (by decide) ?_
   refine XS.iload X54.here hx rfl (hb hby at_141) rfl ?_
   refine XS.iconst X54.here hx rfl (hb hby at_143) ?_
   exact kt
  obtain ⟨T611, h611, X611, e611, E611, A611, D611, -, st611⟩ := newO X54 hx hZ hown (hq hw 1 rfl) (hq hw 2 rfl) (hq hw 3 rfl) e54 (g := (mkF m 147 #[iv p0, iv p1, iv c0, iv c1, iv c2, iv 2, iv d0, iv d1, iv d2, iv u2, rv b3, rv b30, .unset, .unset, .unset, .unset] [])) rfl (hb hby at_147) (by decide) (by decide)
  obtain ⟨b611, g611⟩ : ∃ z, z = h54.size := ⟨_, rfl⟩
  rw [← g611] at A611 D611 st611
  have g_b611 : n0 ≤ b611 := Nat.le_trans z58 (Nat.le_of_eq g611.symm)
  have sz_b611 : h0.size ≤ b611 := Nat.le_trans kp59.1 (Nat.le_of_eq g611.symm)
  have ne_b3_b611 : b3 ≠ b611 := Nat.ne_of_lt (Nat.lt_of_lt_of_le fa62.lt (Nat.le_of_eq g611.symm))
  have ne_b30_b611 : b30 ≠ b611 := Nat.ne_of_lt (Nat.lt_of_lt_of_le fa63.lt (Nat.le_of_eq g611.symm))
  have ch612 : CHv Z own_EL s.vm h611 := ch55.ext E611
  have cr612 : CHr Z own_EL s.vm h0 s.vm h611 := cr55.trans (CHr.ext E611 ch55)
  have sf612_b611 : Safe Z own_EL s.vm h611 b611 := Safe.ext E611 ch55 (Safe.new (Nat.le_of_eq g611.symm))
  have fa613 := fa56.ext E611
  have fa614 := fa62.ext E611
  have fa615 := fa63.ext E611
  have z616 : n0 ≤ h611.size := Nat.le_trans z58 E611.1
  have hk := Nat.le_trans hk E611.1
  have kp617 : Keep h0 h611 [] := kp59.ext E611
  have fa618 : Fld Z h611 b611 "java/lang/String" "coder" "B" (.int (0 : Int32)) := D611 (Or.inr (hq hw 27 rfl)) (ty := .byte) (by decide)
  have fa619 : Fld Z h611 b611 "java/lang/String" "value" "[B" .null := D611 (Or.inr (hq hw 29 rfl)) (ty := (.array .byte)) (by decide)
  obtain ⟨T620, h620, k620, X620, e620, E620, A620, st620⟩ := newP X611 hx hZ (hq hw 0 rfl) e611 (g := (mkF m 152 #[iv p0, iv p1, iv c0, iv c1, iv c2, iv 2, iv d0, iv d1, iv d2, iv u2, rv b3, rv b30, .unset, .unset, .unset, .unset] [(.int (2 : Int32)), (.ref b611), (.ref b611)])) rfl (hb hby at_152) rfl (by decide) (cap := 2) (by decide) (by decide) (by decide) (by decide)
  obtain ⟨b620, g620⟩ : ∃ z, z = h611.size := ⟨_, rfl⟩
  rw [← g620] at A620 st620
  have g_b620 : n0 ≤ b620 := Nat.le_trans z616 (Nat.le_of_eq g620.symm)
  have sz_b620 : h0.size ≤ b620 := Nat.le_trans kp617.1 (Nat.le_of_eq g620.symm)
  have ne_b3_b620 : b3 ≠ b620 := Nat.ne_of_lt (Nat.lt_of_lt_of_le fa614.lt (Nat.le_of_eq g620.symm))
  have ne_b30_b620 : b30 ≠ b620 := Nat.ne_of_lt (Nat.lt_of_lt_of_le fa615.lt (Nat.le_of_eq g620.symm))
  have ne_b611_b620 : b611 ≠ b620 := Nat.ne_of_lt (Nat.lt_of_lt_of_le A611.lt (Nat.le_of_eq g620.symm))
  have ch621 : CHv Z own_EL s.vm h620 := ch612.ext E620
  have cr621 : CHr Z own_EL s.vm h0 s.vm h620 := cr612.trans (CHr.ext E620 ch612)
  have sf621_b611 : Safe Z own_EL s.vm h620 b611 := Safe.ext E620 ch612 sf612_b611
  have sf621_b620 : Safe Z own_EL s.vm h620 b620 := Safe.ext E620 ch612 (Safe.new (Nat.le_of_eq g620.symm))
  have fa622 := fa613.ext E620
  have fa623 := fa614.ext E620
  have fa624 := fa615.ext E620
  have fa625 := A611.ext E620
  have fa626 := fa618.ext E620
  have fa627 := fa619.ext E620
  have z628 : n0 ≤ h620.size := Nat.le_trans z616 E620.1
  have hk := Nat.le_trans hk E620.1
  have kp629 : Keep h0 h620 [] := kp617.ext E620
  have fa630 : Arv Z h620 b620 k620 .char (2 : Int32) [(.int (0 : Int32)), (.int (0 : Int32))] (.int (0 : Int32)) := (Arv.new A620 (by decide)).pad (pad_rep [] (.int (0 : Int32)) 2)
  obtain ⟨cl631, Ar631, q631, S631, M631, H631, G631⟩ := id fa630
  have hin631 : ¬ ((0 : Int32) < 0 ∨ cl631.slots.size ≤ ((0 : Int32)).toNatClampNeg) := inb_of S631 ⟨by decide, by decide⟩
  obtain ⟨T632, h632, X632, e632, W632, st632⟩ := stC X620 hx hZ e620 Ar631 (j := (0 : Int32)) hin631 (g := (mkF m 157 #[iv p0, iv p1, iv c0, iv c1, iv c2, iv 2, iv d0, iv d1, iv d2, iv u2, rv b3, rv b30, .unset, .unset, .unset, .unset] [(.int c0), (.int (0 : Int32)), (.ref b620), (.ref b620), (.ref b611), (.ref b611)])) rfl rfl (hb hby at_157)
  have ch633 : CHv Z own_EL s.vm h632 := ch621.wr W632 sf621_b620
  have cr633 : CHr Z own_EL s.vm h0 s.vm h632 := cr621.trans (CHr.wr W632 sf621_b620 ch621)
  have sf633_b611 : Safe Z own_EL s.vm h632 b611 := Safe.wr W632 sf621_b620 ch621 sf621_b611
  have sf633_b620 : Safe Z own_EL s.vm h632 b620 := Safe.wr W632 sf621_b620 ch621 sf621_b620
  have fa634 := fa622.wr W632 g_b620
  have fa635 := fa623.other W632 ne_b3_b620
  have fa636 := fa624.other W632 ne_b30_b620
  have fa637 := fa625.wr W632
  have fa638 := fa626.other W632 (Or.inl ne_b611_b620)
  have fa639 := fa627.other W632 (Or.inl ne_b611_b620)
  have z640 : n0 ≤ h632.size := Nat.le_trans z628 (Nat.le_of_eq W632.size.symm)
  have hk := Nat.le_trans hk (Nat.le_of_eq W632.size.symm)
  have kp641 : Keep h0 h632 [] := kp629.wr W632 (Or.inr sz_b620)
  have fa642 : Arv Z h632 b620 k620 .char (2 : Int32) [(.int (nar .char c0)), (.int (0 : Int32))] (.int (0 : Int32)) := Arv.set Ar631 q631 S631 M631 H631 G631 (fits_nar_char _) W632 0 rfl (Nat.le_of_ble_eq_true rfl)
  have N632 := Fr.snoc X632 N54 g_b620
  obtain ⟨cl643, Ar643, q643, S643, M643, H643, G643⟩ := id fa642
  have hin643 : ¬ ((1 : Int32) < 0 ∨ cl643.slots.size ≤ ((1 : Int32)).toNatClampNeg) := inb_of S643 ⟨by decide, by decide⟩
  obtain ⟨T644, h644, X644, e644, W644, st644⟩ := stC X632 hx hZ e632 Ar643 (j := (1 : Int32)) hin643 (g := (mkF m 161 #[iv p0, iv p1, iv c0, iv c1, iv c2, iv 2, iv d0, iv d1, iv d2, iv u2, rv b3, rv b30, .unset, .unset, .unset, .unset] [(.int c1), (.int (1 : Int32)), (.ref b620), (.ref b620), (.ref b611), (.ref b611)])) rfl rfl (hb hby at_161)
  have ch645 : CHv Z own_EL s.vm h644 := ch633.wr W644 sf633_b620
  have cr645 : CHr Z own_EL s.vm h0 s.vm h644 := cr633.trans (CHr.wr W644 sf633_b620 ch633)
  have sf645_b611 : Safe Z own_EL s.vm h644 b611 := Safe.wr W644 sf633_b620 ch633 sf633_b611
  have sf645_b620 : Safe Z own_EL s.vm h644 b620 := Safe.wr W644 sf633_b620 ch633 sf633_b620
  have fa646 := fa634.wr W644 g_b620
  have fa647 := fa635.other W644 ne_b3_b620
  have fa648 := fa636.other W644 ne_b30_b620
  have fa649 := fa637.wr W644
  have fa650 := fa638.other W644 (Or.inl ne_b611_b620)
  have fa651 := fa639.other W644 (Or.inl ne_b611_b620)
  have z652 : n0 ≤ h644.size := Nat.le_trans z640 (Nat.le_of_eq W644.size.symm)
  have hk := Nat.le_trans hk (Nat.le_of_eq W644.size.symm)
  have kp653 : Keep h0 h644 [] := kp641.wr W644 (Or.inr sz_b620)
  have fa654 : Arv Z h644 b620 k620 .char (2 : Int32) [(.int (nar .char c0)), (.int (nar .char c1))] (.int (0 : Int32)) := Arv.set Ar643 q643 S643 M643 H643 G643 (fits_nar_char _) W644 1 rfl (Nat.le_of_ble_eq_true rfl)
  have N644 := Fr.snoc X644 N632 g_b620
  have fa655 : Arv Z h644 b620 k620 .char (2 : Int32) [(.int c0), (.int c1)] (.int (0 : Int32)) := by have q := fa654; rw [own_narc c0 hb_c0, own_narc c1 hb_c1] at q; exact q
  have G656 : ∀ t, Steps p.tables e below (T644.setTop (mkF m 162 #[iv p0, iv p1, iv c0, iv c1, iv c2, iv 2, iv d0, iv d1, iv d2, iv u2, rv b3, rv b30, .unset, .unset, .unset, .unset] [(.ref b620), (.ref b611), (.ref b611)])) t → Steps p.tables e below (s₁.setTop (entryFrame m #[(.int p0), (.int p1)] maxLocals)) t := by
   intro t kt
   refine G610 _ ?_
   refine XS.icmpNo X54.here hx rfl (hb hby at_144) rfl (teq (by decide)).2 ?_
   refine st611 _ ?_
   refine XS.dup X611.here hx rfl (hb hby at_150) rfl rfl ?_
   refine XS.iconst X611.here hx rfl (hb hby at_151) ?_
   refine st620 _ ?_
   refine XS.dup X620.here hx rfl (hb hby at_154) rfl rfl ?_
   refine XS.iconst X620.here hx rfl (hb hby at_155) ?_
   refine XS.iloadN X620.here hx rfl (hb hby at_156) rfl ?_
   refine st632 _ ?_
   refine XS.dup X632.here hx rfl (hb hby at_158) rfl rfl ?_
   refine XS.iconst X632.here hx rfl (hb hby at_159) ?_
   refine XS.iloadN X632.here hx rfl (hb hby at_160) rfl ?_
   show Steps p.tables e below (T632.setTop (mkF m 161 #[iv p0, iv p1, iv c0, iv c1, iv c2, iv 2, iv d0, iv d1, iv d2, iv u2, rv b3, rv b30, .unset, .unset, .unset, .unset] [(.int c1), (.int (1 : Int32)), (.ref b620), (.ref b620), (.ref b611), (.ref b611)])) _
   refine st644 _ ?_
   exact kt
  obtain ⟨_, _, ⟨T657, L657, k657, n657⟩, -, X657, ⟨Lc657, hQ657, l657, y657, z657⟩, st657⟩ := X644.specialBack hx (y := (⟨"java/lang/String", "<init>", "([C)V"⟩ : MethodName)) rfl hown (mvT hZ (hq hw 4 rfl)) (mvT hZ (hq hw 5 rfl)) (mvT hZ (hq hw 6 rfl)) (by decide) (backOf (W := 1) (rmSF_2 l Z a0 hw [] b611 b620 c0 c1 k620 cst fv h644 n0 z652 fa649 fa651 fa650 fa655 fa646 g_b611 ne_b611_b620 hb_c0 hb_c1 hp_c0 hp_c1 SS) hZ (hq hw 6 rfl) (hq hw 3 rfl) (by decide) (by decide)) (g := (mkF m 162 #[iv p0, iv p1, iv c0, iv c1, iv c2, iv 2, iv d0, iv d1, iv d2, iv u2, rv b3, rv b30, .unset, .unset, .unset, .unset] [(.ref b620), (.ref b611), (.ref b611)])) rfl (by rw [hml]; rfl) (Steps.refl _) (a := b611) (argsL := [(.ref b620)]) (rest := [(.ref b611)]) (lenOf pd_26 rfl) rfl (by show 2 * 0 + _ ≤ _; exact Nat.le_of_eq rfl) (hb hby at_162) (fun _ _ => ⟨rfl, e644, (by decide : 4 + 1 ≤ _), (by decide : 12 + 2 ≤ _)⟩)
  dsimp only [Pt.U, Pt.locs, Pt.cells, Pt.slots] at X657 l657 y657 z657 st657 hQ657
  subst l657 y657 z657
  rcases hQ657 with ⟨rfl, N657q, K657, A657, hq657, Fc657, ta657, kb657, Fv657, sz657, g_ta657, V657⟩
  ·skip
   have N657 := Fr.app N644 N657q
   have szk657 : h0.size ≤ ta657 := Nat.le_trans kp653.1 sz657
   have ne_b3_ta657 : b3 ≠ ta657 := Nat.ne_of_lt (Nat.lt_of_lt_of_le fa647.lt sz657)
   have ne_b30_ta657 : b30 ≠ ta657 := Nat.ne_of_lt (Nat.lt_of_lt_of_le fa648.lt sz657)
   have ne_b611_ta657 : b611 ≠ ta657 := Nat.ne_of_lt (Nat.lt_of_lt_of_le fa649.lt sz657)
   have ne_b620_ta657 : b620 ≠ ta657 := Nat.ne_of_lt (Nat.lt_of_lt_of_le fa655.lt sz657)
   have ch658 : CHv Z own_EL s.vm T657.heap := ch645.keep K657 (allS sf645_b611 all0)
   have cr658 : CHr Z own_EL s.vm h0 s.vm T657.heap := cr645.trans (CHr.keep K657 (allS sf645_b611 all0) ch645)
   have sf658_b611 : Safe Z own_EL s.vm T657.heap b611 := Safe.keep K657 (allS sf645_b611 all0) ch645 sf645_b611
   have sf658_b620 : Safe Z own_EL s.vm T657.heap b620 := Safe.keep K657 (allS sf645_b611 all0) ch645 sf645_b620
   have fa659 := fa646.keep K657 (allS g_b611 all0)
   have fa660 := fa647.keep K657 (ninS ne_b3_b611 nin0)
   have fa661 := fa648.keep K657 (ninS ne_b30_b611 nin0)
   have fa662 := fa649.keep K657
   have fa663 := fa655.keep K657 (ninS (Ne.symm ne_b611_b620) nin0)
   have z664 : n0 ≤ T657.heap.size := Nat.le_trans z652 K657.1
   have hk := Nat.le_trans hk K657.1
   have kp665 : Keep h0 T657.heap [] := kp653.trans K657 (allS (Or.inr sz_b611) all0)
   have G666 : ∀ t, Steps p.tables e below (T657.setTop (mkF m 195 #[iv p0, iv p1, iv c0, iv c1, iv c2, iv 2, iv d0, iv d1, iv d2, iv u2, rv b3, rv b30, rv b611, .unset, .unset, .unset] [])) t → Steps p.tables e below (s₁.setTop (entryFrame m #[(.int p0), (.int p1)] maxLocals)) t := by
    intro t kt
    refine G656 _ ?_
    refine st657.trans ?_
    refine XS.astore X657.here hx rfl (hb hby at_165) rfl rfl (l' := #[iv p0, iv p1, iv c0, iv c1, iv c2, iv 2, iv d0, iv d1, iv d2, iv u2, rv b3, rv b30, rv b611, .unset, .unset, .unset]) rfl ?_
    refine XS.goto X657.here hx rfl (pc0 := 167) (pc' := 195) rfl (hb hby at_167) (by decide) (by decide) ?_
    exact kt
   rcases own_at4 hu2' with rfl | rfl | rfl | rfl
   ·skip
    have G667 : ∀ t, Steps p.tables e below (T657.setTop (mkF m 197 #[iv p0, iv p1, iv c0, iv c1, iv c2, iv 2, iv d0, iv d1, iv d2, iv 0, rv b3, rv b30, rv b611, .unset, .unset, .unset] [(.int (0 : Int32))])) t → Steps p.tables e below (s₁.setTop (entryFrame m #[(.int p0), (.int p1)] maxLocals)) t := by
     intro t kt
     refine G666 _ ?_
     refine XS.iload X657.here hx rfl (hb hby at_195) rfl ?_
     exact kt
    obtain ⟨T668, h668, X668, e668, E668, A668, D668, -, st668⟩ := newO X657 hx hZ hown (hq hw 1 rfl) (hq hw 2 rfl) (hq hw 3 rfl) rfl (g := (mkF m 200 #[iv p0, iv p1, iv c0, iv c1, iv c2, iv 2, iv d0, iv d1, iv d2, iv 0, rv b3, rv b30, rv b611, .unset, .unset, .unset] [])) rfl (hb hby at_200) (by decide) (by decide)
    obtain ⟨b668, g668⟩ : ∃ z, z = T657.heap.size := ⟨_, rfl⟩
    rw [← g668] at A668 D668 st668
    have g_b668 : n0 ≤ b668 := Nat.le_trans z664 (Nat.le_of_eq g668.symm)
    have sz_b668 : h0.size ≤ b668 := Nat.le_trans kp665.1 (Nat.le_of_eq g668.symm)
    have ne_b3_b668 : b3 ≠ b668 := Nat.ne_of_lt (Nat.lt_of_lt_of_le fa660.lt (Nat.le_of_eq g668.symm))
    have ne_b30_b668 : b30 ≠ b668 := Nat.ne_of_lt (Nat.lt_of_lt_of_le fa661.lt (Nat.le_of_eq g668.symm))
    have ne_b611_b668 : b611 ≠ b668 := Nat.ne_of_lt (Nat.lt_of_lt_of_le A657.lt (Nat.le_of_eq g668.symm))
    have ne_ta657_b668 : ta657 ≠ b668 := Nat.ne_of_lt (Nat.lt_of_lt_of_le V657.lt (Nat.le_of_eq g668.symm))
    have ch669 : CHv Z own_EL s.vm h668 := ch658.ext E668
    have cr669 : CHr Z own_EL s.vm h0 s.vm h668 := cr658.trans (CHr.ext E668 ch658)
    have sf669_b668 : Safe Z own_EL s.vm h668 b668 := Safe.ext E668 ch658 (Safe.new (Nat.le_of_eq g668.symm))
    have fa670 := fa659.ext E668
    have fa671 := fa660.ext E668
    have fa672 := fa661.ext E668
    have fa673 := A657.ext E668
    have fa674 := V657.ext E668
    have fa675 := Fc657.ext E668
    have fa676 := Fv657.ext E668
    have z677 : n0 ≤ h668.size := Nat.le_trans z664 E668.1
    have hk := Nat.le_trans hk E668.1
    have kp678 : Keep h0 h668 [] := kp665.ext E668
    have fa679 : Fld Z h668 b668 "java/lang/String" "coder" "B" (.int (0 : Int32)) := D668 (Or.inr (hq hw 27 rfl)) (ty := .byte) (by decide)
    have fa680 : Fld Z h668 b668 "java/lang/String" "value" "[B" .null := D668 (Or.inr (hq hw 29 rfl)) (ty := (.array .byte)) (by decide)
    obtain ⟨T681, h681, k681, X681, e681, E681, A681, st681⟩ := newP X668 hx hZ (hq hw 0 rfl) e668 (g := (mkF m 205 #[iv p0, iv p1, iv c0, iv c1, iv c2, iv 2, iv d0, iv d1, iv d2, iv 0, rv b3, rv b30, rv b611, .unset, .unset, .unset] [(.int (0 : Int32)), (.ref b668), (.ref b668)])) rfl (hb hby at_205) rfl (by decide) (cap := 0) (by decide) (by decide) (by decide) (by decide)
    obtain ⟨b681, g681⟩ : ∃ z, z = h668.size := ⟨_, rfl⟩
    rw [← g681] at A681 st681
    have g_b681 : n0 ≤ b681 := Nat.le_trans z677 (Nat.le_of_eq g681.symm)
    have sz_b681 : h0.size ≤ b681 := Nat.le_trans kp678.1 (Nat.le_of_eq g681.symm)
    have ne_b3_b681 : b3 ≠ b681 := Nat.ne_of_lt (Nat.lt_of_lt_of_le fa671.lt (Nat.le_of_eq g681.symm))
    have ne_b30_b681 : b30 ≠ b681 := Nat.ne_of_lt (Nat.lt_of_lt_of_le fa672.lt (Nat.le_of_eq g681.symm))
    have ne_b611_b681 : b611 ≠ b681 := Nat.ne_of_lt (Nat.lt_of_lt_of_le fa673.lt (Nat.le_of_eq g681.symm))
    have ne_ta657_b681 : ta657 ≠ b681 := Nat.ne_of_lt (Nat.lt_of_lt_of_le fa674.lt (Nat.le_of_eq g681.symm))
    have ne_b668_b681 : b668 ≠ b681 := Nat.ne_of_lt (Nat.lt_of_lt_of_le A668.lt (Nat.le_of_eq g681.symm))
    have ch682 : CHv Z own_EL s.vm h681 := ch669.ext E681
    have cr682 : CHr Z own_EL s.vm h0 s.vm h681 := cr669.trans (CHr.ext E681 ch669)
    have sf682_b668 : Safe Z own_EL s.vm h681 b668 := Safe.ext E681 ch669 sf669_b668
    have sf682_b681 : Safe Z own_EL s.vm h681 b681 := Safe.ext E681 ch669 (Safe.new (Nat.le_of_eq g681.symm))
    have fa683 := fa670.ext E681
    have fa684 := fa671.ext E681
    have fa685 := fa672.ext E681
    have fa686 := fa673.ext E681
    have fa687 := fa674.ext E681
    have fa688 := fa675.ext E681
    have fa689 := fa676.ext E681
    have fa690 := A668.ext E681
    have fa691 := fa679.ext E681
    have fa692 := fa680.ext E681
    have z693 : n0 ≤ h681.size := Nat.le_trans z677 E681.1
    have hk := Nat.le_trans hk E681.1
    have kp694 : Keep h0 h681 [] := kp678.ext E681
    have fa695 : Arv Z h681 b681 k681 .char (0 : Int32) [] (.int (0 : Int32)) := (Arv.new A681 (by decide)).pad (pad_rep [] (.int (0 : Int32)) 0)
    have G696 : ∀ t, Steps p.tables e below (T681.setTop (mkF m 207 #[iv p0, iv p1, iv c0, iv c1, iv c2, iv 2, iv d0, iv d1, iv d2, iv 0, rv b3, rv b30, rv b611, .unset, .unset, .unset] [(.ref b681), (.ref b668), (.ref b668)])) t → Steps p.tables e below (s₁.setTop (entryFrame m #[(.int p0), (.int p1)] maxLocals)) t := by
     intro t kt
     refine G667 _ ?_
     refine XS.ifNo X657.here hx rfl (hb hby at_197) rfl ((if0 _ _).trans (teq (by decide)).2) ?_
     refine st668 _ ?_
     refine XS.dup X668.here hx rfl (hb hby at_203) rfl rfl ?_
     refine XS.iconst X668.here hx rfl (hb hby at_204) ?_
     refine st681 _ ?_
     exact kt
    obtain ⟨_, vm697, ⟨T697, L697, k697, n697⟩, -, X697, hS697, gr697, ⟨Lc697, hQ697, l697, y697, z697, C697⟩, st697⟩ := X681.specialBackS hx (y := (⟨"java/lang/String", "<init>", "([C)V"⟩ : MethodName)) rfl hown (mvT hZ (hq hw 4 rfl)) (mvT hZ (hq hw 5 rfl)) (mvT hZ (hq hw 6 rfl)) (by decide) (backOfSH (s := s) (vm0 := s.vm) (W := 1) (rmSF_0 l Z a0 hw [] b668 b681 k681 h681 n0 z693 fa690 fa692 fa691 fa695 g_b668 ne_b668_b681) hZ (hq hw 6 rfl) (hq hw 3 rfl) (by decide) (by decide) hEL ch682) (g := (mkF m 207 #[iv p0, iv p1, iv c0, iv c1, iv c2, iv 2, iv d0, iv d1, iv d2, iv 0, rv b3, rv b30, rv b611, .unset, .unset, .unset] [(.ref b681), (.ref b668), (.ref b668)])) rfl (by rw [hml]; rfl) (Steps.refl _) (a := b668) (argsL := [(.ref b681)]) (rest := [(.ref b668)]) (lenOf pd_26 rfl) rfl (by show 2 * 0 + _ ≤ _; exact Nat.le_of_eq rfl) (hb hby at_207) (fun _ _ => ⟨rfl, e681, (by decide : 7 + 4 ≤ _), (by decide : 18 + 8 ≤ _)⟩)
    dsimp only [Pt.U, Pt.locs, Pt.cells, Pt.slots] at X697 l697 y697 z697 st697 hQ697 hS697 gr697 C697
    subst l697 y697 z697
    have hS := hS.trans hS697 (Nat.le_trans hk (by rw [← show T681.heap = h681 from e681]; exact gr697))
    have hZ : Z.Warmed39 (s.setVm T697.vm).vm := State.Warmed39.trans hZ hS697.1
    have hown : (s.setVm T697.vm).vm.findClass "com/example/fides/fides/RecordIdToStringPinLaw" = some m.cls := by rw [show (s.setVm T697.vm).vm = T697.vm from rfl, hS697.1.alike.findClass]; exact hown
    have X697 : Stand p l e room_1 (s.setVm T697.vm) m #[(.int p0), (.int p1)] below meth c T697 _ _ _ := X697
    have hk : T697.heap.size ≤ T697.heap.size := Nat.le_refl _
    have cr698 := cr682.trans C697
    have ch698 := C697.1
    have sf698_b668 := C697.safe fa690.lt sf682_b668
    have sf698_b681 := C697.safe fa695.lt sf682_b681
    obtain ⟨rfl, N697q, K697, A697, Fc697, ta697, kb697, Fv697, V697⟩ := hQ697
    have N697 := Fr.app N657 N697q
    have fa699 := fa683.keep K697 (allS g_b668 all0)
    have fa700 := fa684.keep K697 (ninS ne_b3_b668 nin0)
    have fa701 := fa685.keep K697 (ninS ne_b30_b668 nin0)
    have fa702 := fa686.keep K697
    have fa703 := fa687.keep K697 (ninS ne_ta657_b668 nin0)
    have fa704 := fa688.keep K697 (ninS ne_b611_b668 nin0)
    have fa705 := fa689.keep K697 (ninS ne_b611_b668 nin0)
    have fa706 := fa690.keep K697
    have fa707 := fa695.keep K697 (ninS (Ne.symm ne_b668_b681) nin0)
    have z708 : n0 ≤ T697.heap.size := Nat.le_trans z693 K697.1
    have kp709 : Keep h0 T697.heap [] := kp694.trans K697 (allS (Or.inr sz_b668) all0)
    obtain ⟨T710, h710, X710, e710, E710, A710, D710, -, st710⟩ := newO X697 hx hZ hown (hq hw 33 rfl) (hq hw 34 rfl) (hq hw 35 rfl) rfl (g := (mkF m 299 #[iv p0, iv p1, iv c0, iv c1, iv c2, iv 2, iv d0, iv d1, iv d2, iv 0, rv b3, rv b30, rv b611, rv b668, .unset, .unset] [])) rfl (hb hby at_299) (by decide) (by decide)
    obtain ⟨b710, g710⟩ : ∃ z, z = T697.heap.size := ⟨_, rfl⟩
    rw [← g710] at A710 D710 st710
    have g_b710 : n0 ≤ b710 := Nat.le_trans z708 (Nat.le_of_eq g710.symm)
    have sz_b710 : h0.size ≤ b710 := Nat.le_trans kp709.1 (Nat.le_of_eq g710.symm)
    have ne_b3_b710 : b3 ≠ b710 := Nat.ne_of_lt (Nat.lt_of_lt_of_le fa700.lt (Nat.le_of_eq g710.symm))
    have ne_b30_b710 : b30 ≠ b710 := Nat.ne_of_lt (Nat.lt_of_lt_of_le fa701.lt (Nat.le_of_eq g710.symm))
    have ne_b611_b710 : b611 ≠ b710 := Nat.ne_of_lt (Nat.lt_of_lt_of_le fa702.lt (Nat.le_of_eq g710.symm))
    have ne_ta657_b710 : ta657 ≠ b710 := Nat.ne_of_lt (Nat.lt_of_lt_of_le fa703.lt (Nat.le_of_eq g710.symm))
    have ne_b668_b710 : b668 ≠ b710 := Nat.ne_of_lt (Nat.lt_of_lt_of_le A697.lt (Nat.le_of_eq g710.symm))
    have ne_ta697_b710 : ta697 ≠ b710 := Nat.ne_of_lt (Nat.lt_of_lt_of_le V697.lt (Nat.le_of_eq g710.symm))
    have ch711 : CHv Z own_EL T697.vm h710 := ch698.ext E710
    have cr711 : CHr Z own_EL s.vm h0 T697.vm h710 := cr698.trans (CHr.ext E710 ch698)
    have sf711_b710 : Safe Z own_EL T697.vm h710 b710 := Safe.ext E710 ch698 (Safe.new (Nat.le_of_eq g710.symm))
    have fa712 := fa699.ext E710
    have fa713 := fa700.ext E710
    have fa714 := fa701.ext E710
    have fa715 := fa702.ext E710
    have fa716 := fa703.ext E710
    have fa717 := fa704.ext E710
    have fa718 := fa705.ext E710
    have fa719 := A697.ext E710
    have fa720 := Fc697.ext E710
    have fa721 := Fv697.ext E710
    have fa722 := V697.ext E710
    have z723 : n0 ≤ h710.size := Nat.le_trans z708 E710.1
    have hk := Nat.le_trans hk E710.1
    have kp724 : Keep h0 h710 [] := kp709.ext E710
    have fa725 : Fld Z h710 b710 "com/example/fides/fides/RecordId" "table" "Ljava/lang/String;" .null := D710 (Or.inr (hq hw 57 rfl)) (ty := (.object "java/lang/String")) (by decide)
    have fa726 : Fld Z h710 b710 "com/example/fides/fides/RecordId" "key" "Ljava/lang/String;" .null := D710 (Or.inr (hq hw 59 rfl)) (ty := (.object "java/lang/String")) (by decide)
    have G727 : ∀ t, Steps p.tables e below (T710.setTop (mkF m 307 #[iv p0, iv p1, iv c0, iv c1, iv c2, iv 2, iv d0, iv d1, iv d2, iv 0, rv b3, rv b30, rv b611, rv b668, .unset, .unset] [(.ref b668), (.ref b611), (.ref b710), (.ref b710)])) t → Steps p.tables e below (s₁.setTop (entryFrame m #[(.int p0), (.int p1)] maxLocals)) t := by
     intro t kt
     refine G696 _ ?_
     refine st697.trans ?_
     refine XS.astore X697.here hx rfl (hb hby at_210) rfl rfl (l' := #[iv p0, iv p1, iv c0, iv c1, iv c2, iv 2, iv d0, iv d1, iv d2, iv 0, rv b3, rv b30, rv b611, rv b668, .unset, .unset]) rfl ?_
     refine XS.goto X697.here hx rfl (pc0 := 212) (pc' := 299) rfl (hb hby at_212) (by decide) (by decide) ?_
     refine st710 _ ?_
     refine XS.dup X710.here hx rfl (hb hby at_302) rfl rfl ?_
     refine XS.aload X710.here hx rfl (hb hby at_303) rfl rfl ?_
     refine XS.aload X710.here hx rfl (hb hby at_305) rfl rfl ?_
     exact kt
    obtain ⟨_, vm728, ⟨T728, L728, k728, n728⟩, -, X728, hS728, gr728, ⟨Lc728, hQ728, l728, y728, z728, C728⟩, st728⟩ := X710.specialBackS hx (y := (⟨"com/example/fides/fides/RecordId", "<init>", "(Ljava/lang/String;Ljava/lang/String;)V"⟩ : MethodName)) rfl hown (mvT hZ (hq hw 36 rfl)) (mvT hZ (hq hw 37 rfl)) (mvT hZ (hq hw 38 rfl)) (by decide) (backOfSH (s := s) (vm0 := T697.vm) (W := 1) (rm7 l Z a0 hw [] b710 b611 b668 ta657 kb657 (2 : Int32) [(.int (nar .byte (c0.toInt8.toInt32))), (.int (nar .byte (c1.toInt8.toInt32)))] h710 n0 z723 A710 fa725 fa726 fa715 fa718 fa716 g_b710 (Ne.symm ne_b611_b710) (Ne.symm ne_ta657_b710) (by decide)) hZ (hq hw 38 rfl) (hq hw 35 rfl) (by decide) (by decide) hEL ch711) (g := (mkF m 307 #[iv p0, iv p1, iv c0, iv c1, iv c2, iv 2, iv d0, iv d1, iv d2, iv 0, rv b3, rv b30, rv b611, rv b668, .unset, .unset] [(.ref b668), (.ref b611), (.ref b710), (.ref b710)])) rfl (by rw [hml]; rfl) (Steps.refl _) (a := b710) (argsL := [(.ref b611), (.ref b668)]) (rest := [(.ref b710)]) (lenOf pd_27 rfl) rfl (by show 2 * 0 + _ ≤ _; exact Nat.le_of_eq rfl) (hb hby at_307) (fun _ _ => ⟨rfl, e710, (by decide : 12 + 4 ≤ _), (by decide : 28 + 40 ≤ _)⟩)
    dsimp only [Pt.U, Pt.locs, Pt.cells, Pt.slots] at X728 l728 y728 z728 st728 hQ728 hS728 gr728 C728
    subst l728 y728 z728
    have hS := hS.trans hS728 (Nat.le_trans hk (by rw [← show T710.heap = h710 from e710]; exact gr728))
    have hZ : Z.Warmed39 (s.setVm T728.vm).vm := State.Warmed39.trans hZ hS728.1
    have hown : (s.setVm T728.vm).vm.findClass "com/example/fides/fides/RecordIdToStringPinLaw" = some m.cls := by rw [show (s.setVm T728.vm).vm = T728.vm from rfl, hS728.1.alike.findClass]; exact hown
    have X728 : Stand p l e room_1 (s.setVm T728.vm) m #[(.int p0), (.int p1)] below meth c T728 _ _ _ := X728
    have hk : T728.heap.size ≤ T728.heap.size := Nat.le_refl _
    have cr729 := cr711.trans C728
    have ch729 := C728.1
    have sf729_b710 := C728.safe A710.lt sf711_b710
    obtain ⟨rfl, N728q, K728, Ft728, Fk728⟩ := hQ728
    have N728 := Fr.app N697 N728q
    have fa730 := fa712.keep K728 (allS g_b710 all0)
    have fa731 := fa713.keep K728 (ninS ne_b3_b710 nin0)
    have fa732 := fa714.keep K728 (ninS ne_b30_b710 nin0)
    have fa733 := fa715.keep K728
    have fa734 := fa716.keep K728 (ninS ne_ta657_b710 nin0)
    have fa735 := fa717.keep K728 (ninS ne_b611_b710 nin0)
    have fa736 := fa718.keep K728 (ninS ne_b611_b710 nin0)
    have fa737 := fa719.keep K728
    have fa738 := fa720.keep K728 (ninS ne_b668_b710 nin0)
    have fa739 := fa721.keep K728 (ninS ne_b668_b710 nin0)
    have fa740 := fa722.keep K728 (ninS ne_ta697_b710 nin0)
    have fa741 := A710.keep K728
    have z742 : n0 ≤ T728.heap.size := Nat.le_trans z723 K728.1
    have kp743 : Keep h0 T728.heap [] := kp724.trans K728 (allS (Or.inr sz_b710) all0)
    have G744 : ∀ t, Steps p.tables e below (T728.setTop (mkF m 310 #[iv p0, iv p1, iv c0, iv c1, iv c2, iv 2, iv d0, iv d1, iv d2, iv 0, rv b3, rv b30, rv b611, rv b668, .unset, .unset] [(.ref b710)])) t → Steps p.tables e below (s₁.setTop (entryFrame m #[(.int p0), (.int p1)] maxLocals)) t := by
     intro t kt
     refine G727 _ ?_
     refine st728.trans ?_
     exact kt
    obtain ⟨cq745, kq745, q745a, q745b, q745c⟩ := isOf hZ rfl fa741
    obtain ⟨_, vm745, ⟨T745, L745, k745, n745⟩, -, X745, hS745, gr745, ⟨Lc745, hQ745, l745, y745, z745, C745⟩, st745⟩ := X728.virtualBackS hx (y := (⟨"com/example/fides/fides/RecordId", "toString", "()Ljava/lang/String;"⟩ : MethodName)) (z := (⟨"com/example/fides/fides/RecordId", "toString", "()Ljava/lang/String;"⟩ : MethodName)) hown (mvT hZ (hq hw 60 rfl)) (mvT hZ (hq hw 61 rfl)) (notFace_of_selects (args := #[]) (mvT hZ (hq hw 63 rfl))) (mvT hZ (hq hw 63 rfl)) (mvT hZ (hq hw 62 rfl)) (by decide) (backOfSH (s := s) (vm0 := T728.vm) (W := 0) (rm11 l Z a0 hw [] b710 b611 ta657 kb657 (2 : Int32) [(.int (nar .byte (c0.toInt8.toInt32))), (.int (nar .byte (c1.toInt8.toInt32)))] b668 ta697 kb697 (0 : Int32) [] (3 : Int32) [(.int (nar .byte (c0.toInt8.toInt32))), (.int (nar .byte (c1.toInt8.toInt32))), (.int (47 : Int32))] cst fv T728.heap n0 z742 Ft728 Fk728 fa733 fa735 fa736 fa734 fa737 fa738 fa739 fa740 fa730 (by decide) (own_mkok (by decide) (by decide) (by decide) (by decide) (Nat.le_of_ble_eq_true rfl)) (by decide) (own_mkok (by decide) (by decide) (by decide) (by decide) (Nat.le_of_ble_eq_true rfl)) (by decide) (own_mkok (by decide) (by decide) (by decide) (by decide) (Nat.le_of_ble_eq_true rfl)) (own_cr3) (by decide) rfl SS) hZ (hq hw 64 rfl) (hq hw 35 rfl) (by decide) (by decide) hEL ch729) q745a q745c (g := (mkF m 310 #[iv p0, iv p1, iv c0, iv c1, iv c2, iv 2, iv d0, iv d1, iv d2, iv 0, rv b3, rv b30, rv b611, rv b668, .unset, .unset] [(.ref b710)])) rfl (by rw [hml]; rfl) (Steps.refl _) (argsL := []) (rest := []) (lenOf pd_23 rfl) rfl (by show 2 * 0 + _ ≤ _; exact Nat.le_of_eq rfl) (hb hby at_310) (fun _ _ => ⟨rfl, rfl, (by decide : 16 + 6 ≤ _), (by decide : 68 + 40 ≤ _)⟩)
    dsimp only [Pt.U, Pt.locs, Pt.cells, Pt.slots] at X745 l745 y745 z745 st745 hQ745 hS745 gr745 C745
    subst l745 y745 z745
    have hS := hS.trans hS745 (Nat.le_trans hk (by rw [← show T728.heap = T728.heap from rfl]; exact gr745))
    have hZ : Z.Warmed39 (s.setVm T745.vm).vm := State.Warmed39.trans hZ hS745.1
    have hown : (s.setVm T745.vm).vm.findClass "com/example/fides/fides/RecordIdToStringPinLaw" = some m.cls := by rw [show (s.setVm T745.vm).vm = T745.vm from rfl, hS745.1.alike.findClass]; exact hown
    have X745 : Stand p l e room_1 (s.setVm T745.vm) m #[(.int p0), (.int p1)] below meth c T745 _ _ _ := X745
    have hk : T745.heap.size ≤ T745.heap.size := Nat.le_refl _
    have cr746 := cr729.trans C745
    have ch746 := C745.1
    have sf746_b710 := C745.safe fa741.lt sf729_b710
    obtain ⟨s745, t745, kb745, rfl, N745q, K745, A745, Fc745, Fv745, V745⟩ := hQ745
    have N745 := Fr.app N728 N745q
    have fa747 := fa730.keep K745 all0
    have fa748 := fa731.keep K745 nin0
    have fa749 := fa732.keep K745 nin0
    have fa750 := fa733.keep K745
    have fa751 := fa734.keep K745 nin0
    have fa752 := fa735.keep K745 nin0
    have fa753 := fa736.keep K745 nin0
    have fa754 := fa737.keep K745
    have fa755 := fa738.keep K745 nin0
    have fa756 := fa739.keep K745 nin0
    have fa757 := fa740.keep K745 nin0
    have fa758 := fa741.keep K745
    have fa759 := Ft728.keep K745 nin0
    have fa760 := Fk728.keep K745 nin0
    have z761 : n0 ≤ T745.heap.size := Nat.le_trans z742 K745.1
    have kp762 : Keep h0 T745.heap [] := kp743.trans K745 all0
    have G763 : ∀ t, Steps p.tables e below (T745.setTop (mkF m 324 #[iv p0, iv p1, iv c0, iv c1, iv c2, iv 2, iv d0, iv d1, iv d2, iv 0, rv b3, rv b30, rv b611, rv b668, rv s745, iv 3] [])) t → Steps p.tables e below (s₁.setTop (entryFrame m #[(.int p0), (.int p1)] maxLocals)) t := by
     intro t kt
     refine G744 _ ?_
     refine st745.trans ?_
     refine XS.astore X745.here hx rfl (hb hby at_313) rfl rfl (l' := #[iv p0, iv p1, iv c0, iv c1, iv c2, iv 2, iv d0, iv d1, iv d2, iv 0, rv b3, rv b30, rv b611, rv b668, rv s745, .unset]) rfl ?_
     refine XS.iload X745.here hx rfl (hb hby at_315) rfl ?_
     show Steps p.tables e below (T745.setTop (mkF m 317 #[iv p0, iv p1, iv c0, iv c1, iv c2, iv 2, iv d0, iv d1, iv d2, iv 0, rv b3, rv b30, rv b611, rv b668, rv s745, .unset] [(.int (2 : Int32))])) _
     refine XS.iconst X745.here hx rfl (hb hby at_317) ?_
     refine XS.iadd X745.here hx rfl (hb hby at_318) rfl ?_
     refine XS.iload X745.here hx rfl (hb hby at_319) rfl ?_
     refine XS.iadd X745.here hx rfl (hb hby at_321) rfl ?_
     refine XS.istore X745.here hx rfl (hb hby at_322) rfl (l' := #[iv p0, iv p1, iv c0, iv c1, iv c2, iv 2, iv d0, iv d1, iv d2, iv 0, rv b3, rv b30, rv b611, rv b668, rv s745, iv 3]) rfl ?_
     exact kt
    obtain ⟨T764, L764, X764, e764, N764, K764⟩ := own_tail (l := l) (Z := Z) (a0 := a0) (iv p0) (iv p1) (iv c0) (iv c1) (iv c2) (iv d0) (iv d1) (iv d2) (iv 0) (rv b611) (rv b668) (2 : Int32) (3 : Int32) b3 b30 s745 t745 kb745 (3 : Int32) [(.int (nar .byte (c0.toInt8.toInt32))), (.int (nar .byte (c1.toInt8.toInt32))), (.int (47 : Int32))] k3 (3 : Int32) [(.int c0), (.int c1), (.int c2)] k30 (3 : Int32) [(.int d0), (.int d1), (.int d2)] cst fv X745 hx hZ hw hby hml hown rfl N745 z761 A745 Fc745 Fv745 V745 fa748 fa749 fa747 (by decide) (by decide) (by decide) (own_atT (xx := (nar .byte (c0.toInt8.toInt32))) (cc := c0) (by decide) (by decide) (by decide) rfl (own_lat c0 hb_c0 hp_c0) (by decide) rfl (by decide)) (own_atT (xx := (nar .byte (c1.toInt8.toInt32))) (cc := c1) (by decide) (by decide) (by decide) rfl (own_lat c1 hb_c1 hp_c1) (by decide) rfl (by decide)) (own_atM (xx := (47 : Int32)) (by decide) (by decide) (by decide) rfl (by decide) (by decide) (by decide)) (own_atD (by decide)) (own_atD (by decide)) (own_atD (by decide)) (own_atD (by decide)) SS
    have G765 : ∀ t, Steps p.tables e below (T764.setTop (mkF m 461 #[iv p0, iv p1, iv c0, iv c1, iv c2, iv 2, iv d0, iv d1, iv d2, iv 0, rv b3, rv b30, rv b611, rv b668, rv s745, iv 3] [])) t → Steps p.tables e below (s₁.setTop (entryFrame m #[(.int p0), (.int p1)] maxLocals)) t := fun t kt => G763 t (K764 t kt)
    obtain ⟨fs, hr, hrun, hended, hRW⟩ := X764.leaveW (s := s) hS (by rw [show T764.heap = T745.heap from e764]; exact hk) (v := some (.int (1 : Int32))) (fun h => by rw [Bd.returns] at h; cases h) (BodyLoose.notSynchronized Bd)
    refine ⟨_, _, G765 _ ?_, hrun, hended, _, _, rfl, ?_, hRW.1, hRW.2.1, hRW.2.2.1, hRW.2.2.2.mono (by decide) (by decide)⟩
    ·skip
     refine XS.iconst X764.here hx rfl (hb hby at_461) ?_
     refine XS.goto X764.here hx rfl (pc0 := 462) (pc' := 466) rfl (hb hby at_462) (by decide) (by decide) ?_
     exact retN X764 hx (t := .boolean) Bd.returns (by simp) (hb hby at_466) hr
    ·show Q0 Z p0 p1 cst fv h0 n0 _ T764.heap _
     rw [e764]
     exact ⟨rfl, N764⟩
   ·skip
    have G766 : ∀ t, Steps p.tables e below (T657.setTop (mkF m 197 #[iv p0, iv p1, iv c0, iv c1, iv c2, iv 2, iv d0, iv d1, iv d2, iv 1, rv b3, rv b30, rv b611, .unset, .unset, .unset] [(.int (1 : Int32))])) t → Steps p.tables e below (s₁.setTop (entryFrame m #[(.int p0), (.int p1)] maxLocals)) t := by
     intro t kt
     refine G666 _ ?_
     refine XS.iload X657.here hx rfl (hb hby at_195) rfl ?_
     exact kt
    have G767 : ∀ t, Steps p.tables e below (T657.setTop (mkF m 218 #[iv p0, iv p1, iv c0, iv c1, iv c2, iv 2, iv d0, iv d1, iv d2, iv 1, rv b3, rv b30, rv b611, .unset, .unset, .unset] [(.int (1 : Int32)), (.int (1 : Int32))])) t → Steps p.tables e below (s₁.setTop (entryFrame m #[(.int p0), (.int p1)] maxLocals)) t := by
     intro t kt
     refine G766 _ ?_
     refine XS.ifYes X657.here hx rfl (pc0 := 197) (pc' := 215) rfl (hb hby at_197) rfl ((if0 _ _).trans (feq (by decide)).2) (by decide) (by decide) ?_
     refine XS.iload X657.here hx rfl (hb hby at_215) rfl ?_
     refine XS.iconst X657.here hx rfl (hb hby at_217) ?_
     exact kt
    obtain ⟨T768, h768, X768, e768, E768, A768, D768, -, st768⟩ := newO X657 hx hZ hown (hq hw 1 rfl) (hq hw 2 rfl) (hq hw 3 rfl) rfl (g := (mkF m 221 #[iv p0, iv p1, iv c0, iv c1, iv c2, iv 2, iv d0, iv d1, iv d2, iv 1, rv b3, rv b30, rv b611, .unset, .unset, .unset] [])) rfl (hb hby at_221) (by decide) (by decide)
    obtain ⟨b768, g768⟩ : ∃ z, z = T657.heap.size := ⟨_, rfl⟩
    rw [← g768] at A768 D768 st768
    have g_b768 : n0 ≤ b768 := Nat.le_trans z664 (Nat.le_of_eq g768.symm)
    have sz_b768 : h0.size ≤ b768 := Nat.le_trans kp665.1 (Nat.le_of_eq g768.symm)
    have ne_b3_b768 : b3 ≠ b768 := Nat.ne_of_lt (Nat.lt_of_lt_of_le fa660.lt (Nat.le_of_eq g768.symm))
    have ne_b30_b768 : b30 ≠ b768 := Nat.ne_of_lt (Nat.lt_of_lt_of_le fa661.lt (Nat.le_of_eq g768.symm))
    have ne_b611_b768 : b611 ≠ b768 := Nat.ne_of_lt (Nat.lt_of_lt_of_le A657.lt (Nat.le_of_eq g768.symm))
    have ne_ta657_b768 : ta657 ≠ b768 := Nat.ne_of_lt (Nat.lt_of_lt_of_le V657.lt (Nat.le_of_eq g768.symm))
    have ch769 : CHv Z own_EL s.vm h768 := ch658.ext E768
    have cr769 : CHr Z own_EL s.vm h0 s.vm h768 := cr658.trans (CHr.ext E768 ch658)
    have sf769_b768 : Safe Z own_EL s.vm h768 b768 := Safe.ext E768 ch658 (Safe.new (Nat.le_of_eq g768.symm))
    have fa770 := fa659.ext E768
    have fa771 := fa660.ext E768
    have fa772 := fa661.ext E768
    have fa773 := A657.ext E768
    have fa774 := V657.ext E768
    have fa775 := Fc657.ext E768
    have fa776 := Fv657.ext E768
    have z777 : n0 ≤ h768.size := Nat.le_trans z664 E768.1
    have hk := Nat.le_trans hk E768.1
    have kp778 : Keep h0 h768 [] := kp665.ext E768
    have fa779 : Fld Z h768 b768 "java/lang/String" "coder" "B" (.int (0 : Int32)) := D768 (Or.inr (hq hw 27 rfl)) (ty := .byte) (by decide)
    have fa780 : Fld Z h768 b768 "java/lang/String" "value" "[B" .null := D768 (Or.inr (hq hw 29 rfl)) (ty := (.array .byte)) (by decide)
    obtain ⟨T781, h781, k781, X781, e781, E781, A781, st781⟩ := newP X768 hx hZ (hq hw 0 rfl) e768 (g := (mkF m 226 #[iv p0, iv p1, iv c0, iv c1, iv c2, iv 2, iv d0, iv d1, iv d2, iv 1, rv b3, rv b30, rv b611, .unset, .unset, .unset] [(.int (1 : Int32)), (.ref b768), (.ref b768)])) rfl (hb hby at_226) rfl (by decide) (cap := 1) (by decide) (by decide) (by decide) (by decide)
    obtain ⟨b781, g781⟩ : ∃ z, z = h768.size := ⟨_, rfl⟩
    rw [← g781] at A781 st781
    have g_b781 : n0 ≤ b781 := Nat.le_trans z777 (Nat.le_of_eq g781.symm)
    have sz_b781 : h0.size ≤ b781 := Nat.le_trans kp778.1 (Nat.le_of_eq g781.symm)
    have ne_b3_b781 : b3 ≠ b781 := Nat.ne_of_lt (Nat.lt_of_lt_of_le fa771.lt (Nat.le_of_eq g781.symm))
    have ne_b30_b781 : b30 ≠ b781 := Nat.ne_of_lt (Nat.lt_of_lt_of_le fa772.lt (Nat.le_of_eq g781.symm))
    have ne_b611_b781 : b611 ≠ b781 := Nat.ne_of_lt (Nat.lt_of_lt_of_le fa773.lt (Nat.le_of_eq g781.symm))
    have ne_ta657_b781 : ta657 ≠ b781 := Nat.ne_of_lt (Nat.lt_of_lt_of_le fa774.lt (Nat.le_of_eq g781.symm))
    have ne_b768_b781 : b768 ≠ b781 := Nat.ne_of_lt (Nat.lt_of_lt_of_le A768.lt (Nat.le_of_eq g781.symm))
    have ch782 : CHv Z own_EL s.vm h781 := ch769.ext E781
    have cr782 : CHr Z own_EL s.vm h0 s.vm h781 := cr769.trans (CHr.ext E781 ch769)
    have sf782_b768 : Safe Z own_EL s.vm h781 b768 := Safe.ext E781 ch769 sf769_b768
    have sf782_b781 : Safe Z own_EL s.vm h781 b781 := Safe.ext E781 ch769 (Safe.new (Nat.le_of_eq g781.symm))
    have fa783 := fa770.ext E781
    have fa784 := fa771.ext E781
    have fa785 := fa772.ext E781
    have fa786 := fa773.ext E781
    have fa787 := fa774.ext E781
    have fa788 := fa775.ext E781
    have fa789 := fa776.ext E781
    have fa790 := A768.ext E781
    have fa791 := fa779.ext E781
    have fa792 := fa780.ext E781
    have z793 : n0 ≤ h781.size := Nat.le_trans z777 E781.1
    have hk := Nat.le_trans hk E781.1
    have kp794 : Keep h0 h781 [] := kp778.ext E781
    have fa795 : Arv Z h781 b781 k781 .char (1 : Int32) [(.int (0 : Int32))] (.int (0 : Int32)) := (Arv.new A781 (by decide)).pad (pad_rep [] (.int (0 : Int32)) 1)
    obtain ⟨cl796, Ar796, q796, S796, M796, H796, G796⟩ := id fa795
    have hin796 : ¬ ((0 : Int32) < 0 ∨ cl796.slots.size ≤ ((0 : Int32)).toNatClampNeg) := inb_of S796 ⟨by decide, by decide⟩
    obtain ⟨T797, h797, X797, e797, W797, st797⟩ := stC X781 hx hZ e781 Ar796 (j := (0 : Int32)) hin796 (g := (mkF m 232 #[iv p0, iv p1, iv c0, iv c1, iv c2, iv 2, iv d0, iv d1, iv d2, iv 1, rv b3, rv b30, rv b611, .unset, .unset, .unset] [(.int d0), (.int (0 : Int32)), (.ref b781), (.ref b781), (.ref b768), (.ref b768)])) rfl rfl (hb hby at_232)
    have ch798 : CHv Z own_EL s.vm h797 := ch782.wr W797 sf782_b781
    have cr798 : CHr Z own_EL s.vm h0 s.vm h797 := cr782.trans (CHr.wr W797 sf782_b781 ch782)
    have sf798_b768 : Safe Z own_EL s.vm h797 b768 := Safe.wr W797 sf782_b781 ch782 sf782_b768
    have sf798_b781 : Safe Z own_EL s.vm h797 b781 := Safe.wr W797 sf782_b781 ch782 sf782_b781
    have fa799 := fa783.wr W797 g_b781
    have fa800 := fa784.other W797 ne_b3_b781
    have fa801 := fa785.other W797 ne_b30_b781
    have fa802 := fa786.wr W797
    have fa803 := fa787.other W797 ne_ta657_b781
    have fa804 := fa788.other W797 (Or.inl ne_b611_b781)
    have fa805 := fa789.other W797 (Or.inl ne_b611_b781)
    have fa806 := fa790.wr W797
    have fa807 := fa791.other W797 (Or.inl ne_b768_b781)
    have fa808 := fa792.other W797 (Or.inl ne_b768_b781)
    have z809 : n0 ≤ h797.size := Nat.le_trans z793 (Nat.le_of_eq W797.size.symm)
    have hk := Nat.le_trans hk (Nat.le_of_eq W797.size.symm)
    have kp810 : Keep h0 h797 [] := kp794.wr W797 (Or.inr sz_b781)
    have fa811 : Arv Z h797 b781 k781 .char (1 : Int32) [(.int (nar .char d0))] (.int (0 : Int32)) := Arv.set Ar796 q796 S796 M796 H796 G796 (fits_nar_char _) W797 0 rfl (Nat.le_of_ble_eq_true rfl)
    have N797 := Fr.snoc X797 N657 g_b781
    have fa812 : Arv Z h797 b781 k781 .char (1 : Int32) [(.int d0)] (.int (0 : Int32)) := by have q := fa811; rw [own_narc d0 hb_d0] at q; exact q
    have G813 : ∀ t, Steps p.tables e below (T797.setTop (mkF m 233 #[iv p0, iv p1, iv c0, iv c1, iv c2, iv 2, iv d0, iv d1, iv d2, iv 1, rv b3, rv b30, rv b611, .unset, .unset, .unset] [(.ref b781), (.ref b768), (.ref b768)])) t → Steps p.tables e below (s₁.setTop (entryFrame m #[(.int p0), (.int p1)] maxLocals)) t := by
     intro t kt
     refine G767 _ ?_
     refine XS.icmpNo X657.here hx rfl (hb hby at_218) rfl (teq (by decide)).2 ?_
     refine st768 _ ?_
     refine XS.dup X768.here hx rfl (hb hby at_224) rfl rfl ?_
     refine XS.iconst X768.here hx rfl (hb hby at_225) ?_
     refine st781 _ ?_
     refine XS.dup X781.here hx rfl (hb hby at_228) rfl rfl ?_
     refine XS.iconst X781.here hx rfl (hb hby at_229) ?_
     refine XS.iload X781.here hx rfl (hb hby at_230) rfl ?_
     refine st797 _ ?_
     exact kt
    obtain ⟨_, _, ⟨T814, L814, k814, n814⟩, -, X814, ⟨Lc814, hQ814, l814, y814, z814⟩, st814⟩ := X797.specialBack hx (y := (⟨"java/lang/String", "<init>", "([C)V"⟩ : MethodName)) rfl hown (mvT hZ (hq hw 4 rfl)) (mvT hZ (hq hw 5 rfl)) (mvT hZ (hq hw 6 rfl)) (by decide) (backOf (W := 1) (rmSF_1 l Z a0 hw [] b768 b781 d0 k781 cst fv h797 n0 z809 fa806 fa808 fa807 fa812 fa799 g_b768 ne_b768_b781 hb_d0 hp_d0 SS) hZ (hq hw 6 rfl) (hq hw 3 rfl) (by decide) (by decide)) (g := (mkF m 233 #[iv p0, iv p1, iv c0, iv c1, iv c2, iv 2, iv d0, iv d1, iv d2, iv 1, rv b3, rv b30, rv b611, .unset, .unset, .unset] [(.ref b781), (.ref b768), (.ref b768)])) rfl (by rw [hml]; rfl) (Steps.refl _) (a := b768) (argsL := [(.ref b781)]) (rest := [(.ref b768)]) (lenOf pd_26 rfl) rfl (by show 2 * 0 + _ ≤ _; exact Nat.le_of_eq rfl) (hb hby at_233) (fun _ _ => ⟨rfl, e797, (by decide : 7 + 1 ≤ _), (by decide : 19 + 1 ≤ _)⟩)
    dsimp only [Pt.U, Pt.locs, Pt.cells, Pt.slots] at X814 l814 y814 z814 st814 hQ814
    subst l814 y814 z814
    rcases hQ814 with ⟨rfl, N814q, K814, A814, hq814, Fc814, ta814, kb814, Fv814, sz814, g_ta814, V814⟩
    ·skip
     have N814 := Fr.app N797 N814q
     have szk814 : h0.size ≤ ta814 := Nat.le_trans kp810.1 sz814
     have ne_b3_ta814 : b3 ≠ ta814 := Nat.ne_of_lt (Nat.lt_of_lt_of_le fa800.lt sz814)
     have ne_b30_ta814 : b30 ≠ ta814 := Nat.ne_of_lt (Nat.lt_of_lt_of_le fa801.lt sz814)
     have ne_b611_ta814 : b611 ≠ ta814 := Nat.ne_of_lt (Nat.lt_of_lt_of_le fa802.lt sz814)
     have ne_ta657_ta814 : ta657 ≠ ta814 := Nat.ne_of_lt (Nat.lt_of_lt_of_le fa803.lt sz814)
     have ne_b768_ta814 : b768 ≠ ta814 := Nat.ne_of_lt (Nat.lt_of_lt_of_le fa806.lt sz814)
     have ne_b781_ta814 : b781 ≠ ta814 := Nat.ne_of_lt (Nat.lt_of_lt_of_le fa812.lt sz814)
     have ch815 : CHv Z own_EL s.vm T814.heap := ch798.keep K814 (allS sf798_b768 all0)
     have cr815 : CHr Z own_EL s.vm h0 s.vm T814.heap := cr798.trans (CHr.keep K814 (allS sf798_b768 all0) ch798)
     have sf815_b768 : Safe Z own_EL s.vm T814.heap b768 := Safe.keep K814 (allS sf798_b768 all0) ch798 sf798_b768
     have sf815_b781 : Safe Z own_EL s.vm T814.heap b781 := Safe.keep K814 (allS sf798_b768 all0) ch798 sf798_b781
     have fa816 := fa799.keep K814 (allS g_b768 all0)
     have fa817 := fa800.keep K814 (ninS ne_b3_b768 nin0)
     have fa818 := fa801.keep K814 (ninS ne_b30_b768 nin0)
     have fa819 := fa802.keep K814
     have fa820 := fa803.keep K814 (ninS ne_ta657_b768 nin0)
     have fa821 := fa804.keep K814 (ninS ne_b611_b768 nin0)
     have fa822 := fa805.keep K814 (ninS ne_b611_b768 nin0)
     have fa823 := fa806.keep K814
     have fa824 := fa812.keep K814 (ninS (Ne.symm ne_b768_b781) nin0)
     have z825 : n0 ≤ T814.heap.size := Nat.le_trans z809 K814.1
     have hk := Nat.le_trans hk K814.1
     have kp826 : Keep h0 T814.heap [] := kp810.trans K814 (allS (Or.inr sz_b768) all0)
     obtain ⟨T827, h827, X827, e827, E827, A827, D827, -, st827⟩ := newO X814 hx hZ hown (hq hw 33 rfl) (hq hw 34 rfl) (hq hw 35 rfl) rfl (g := (mkF m 299 #[iv p0, iv p1, iv c0, iv c1, iv c2, iv 2, iv d0, iv d1, iv d2, iv 1, rv b3, rv b30, rv b611, rv b768, .unset, .unset] [])) rfl (hb hby at_299) (by decide) (by decide)
     obtain ⟨b827, g827⟩ : ∃ z, z = T814.heap.size := ⟨_, rfl⟩
     rw [← g827] at A827 D827 st827
     have g_b827 : n0 ≤ b827 := Nat.le_trans z825 (Nat.le_of_eq g827.symm)
     have sz_b827 : h0.size ≤ b827 := Nat.le_trans kp826.1 (Nat.le_of_eq g827.symm)
     have ne_b3_b827 : b3 ≠ b827 := Nat.ne_of_lt (Nat.lt_of_lt_of_le fa817.lt (Nat.le_of_eq g827.symm))
     have ne_b30_b827 : b30 ≠ b827 := Nat.ne_of_lt (Nat.lt_of_lt_of_le fa818.lt (Nat.le_of_eq g827.symm))
     have ne_b611_b827 : b611 ≠ b827 := Nat.ne_of_lt (Nat.lt_of_lt_of_le fa819.lt (Nat.le_of_eq g827.symm))
     have ne_ta657_b827 : ta657 ≠ b827 := Nat.ne_of_lt (Nat.lt_of_lt_of_le fa820.lt (Nat.le_of_eq g827.symm))
     have ne_b768_b827 : b768 ≠ b827 := Nat.ne_of_lt (Nat.lt_of_lt_of_le A814.lt (Nat.le_of_eq g827.symm))
     have ne_ta814_b827 : ta814 ≠ b827 := Nat.ne_of_lt (Nat.lt_of_lt_of_le V814.lt (Nat.le_of_eq g827.symm))
     have ch828 : CHv Z own_EL s.vm h827 := ch815.ext E827
     have cr828 : CHr Z own_EL s.vm h0 s.vm h827 := cr815.trans (CHr.ext E827 ch815)
     have sf828_b827 : Safe Z own_EL s.vm h827 b827 := Safe.ext E827 ch815 (Safe.new (Nat.le_of_eq g827.symm))
     have fa829 := fa816.ext E827
     have fa830 := fa817.ext E827
     have fa831 := fa818.ext E827
     have fa832 := fa819.ext E827
     have fa833 := fa820.ext E827
     have fa834 := fa821.ext E827
     have fa835 := fa822.ext E827
     have fa836 := A814.ext E827
     have fa837 := V814.ext E827
     have fa838 := Fc814.ext E827
     have fa839 := Fv814.ext E827
     have z840 : n0 ≤ h827.size := Nat.le_trans z825 E827.1
     have hk := Nat.le_trans hk E827.1
     have kp841 : Keep h0 h827 [] := kp826.ext E827
     have fa842 : Fld Z h827 b827 "com/example/fides/fides/RecordId" "table" "Ljava/lang/String;" .null := D827 (Or.inr (hq hw 57 rfl)) (ty := (.object "java/lang/String")) (by decide)
     have fa843 : Fld Z h827 b827 "com/example/fides/fides/RecordId" "key" "Ljava/lang/String;" .null := D827 (Or.inr (hq hw 59 rfl)) (ty := (.object "java/lang/String")) (by decide)
     have G844 : ∀ t, Steps p.tables e below (T827.setTop (mkF m 307 #[iv p0, iv p1, iv c0, iv c1, iv c2, iv 2, iv d0, iv d1, iv d2, iv 1, rv b3, rv b30, rv b611, rv b768, .unset, .unset] [(.ref b768), (.ref b611), (.ref b827), (.ref b827)])) t → Steps p.tables e below (s₁.setTop (entryFrame m #[(.int p0), (.int p1)] maxLocals)) t := by
      intro t kt
      refine G813 _ ?_
      refine st814.trans ?_
      refine XS.astore X814.here hx rfl (hb hby at_236) rfl rfl (l' := #[iv p0, iv p1, iv c0, iv c1, iv c2, iv 2, iv d0, iv d1, iv d2, iv 1, rv b3, rv b30, rv b611, rv b768, .unset, .unset]) rfl ?_
      refine XS.goto X814.here hx rfl (pc0 := 238) (pc' := 299) rfl (hb hby at_238) (by decide) (by decide) ?_
      refine st827 _ ?_
      refine XS.dup X827.here hx rfl (hb hby at_302) rfl rfl ?_
      show Steps p.tables e below (T827.setTop (mkF m 303 #[iv p0, iv p1, iv c0, iv c1, iv c2, iv 2, iv d0, iv d1, iv d2, iv 1, rv b3, rv b30, rv b611, rv b768, .unset, .unset] [(.ref b827), (.ref b827)])) _
      refine XS.aload X827.here hx rfl (hb hby at_303) rfl rfl ?_
      refine XS.aload X827.here hx rfl (hb hby at_305) rfl rfl ?_
      exact kt
     obtain ⟨_, vm845, ⟨T845, L845, k845, n845⟩, -, X845, hS845, gr845, ⟨Lc845, hQ845, l845, y845, z845, C845⟩, st845⟩ := X827.specialBackS hx (y := (⟨"com/example/fides/fides/RecordId", "<init>", "(Ljava/lang/String;Ljava/lang/String;)V"⟩ : MethodName)) rfl hown (mvT hZ (hq hw 36 rfl)) (mvT hZ (hq hw 37 rfl)) (mvT hZ (hq hw 38 rfl)) (by decide) (backOfSH (s := s) (vm0 := s.vm) (W := 1) (rm7 l Z a0 hw [] b827 b611 b768 ta657 kb657 (2 : Int32) [(.int (nar .byte (c0.toInt8.toInt32))), (.int (nar .byte (c1.toInt8.toInt32)))] h827 n0 z840 A827 fa842 fa843 fa832 fa835 fa833 g_b827 (Ne.symm ne_b611_b827) (Ne.symm ne_ta657_b827) (by decide)) hZ (hq hw 38 rfl) (hq hw 35 rfl) (by decide) (by decide) hEL ch828) (g := (mkF m 307 #[iv p0, iv p1, iv c0, iv c1, iv c2, iv 2, iv d0, iv d1, iv d2, iv 1, rv b3, rv b30, rv b611, rv b768, .unset, .unset] [(.ref b768), (.ref b611), (.ref b827), (.ref b827)])) rfl (by rw [hml]; rfl) (Steps.refl _) (a := b827) (argsL := [(.ref b611), (.ref b768)]) (rest := [(.ref b827)]) (lenOf pd_27 rfl) rfl (by show 2 * 0 + _ ≤ _; exact Nat.le_of_eq rfl) (hb hby at_307) (fun _ _ => ⟨rfl, e827, (by decide : 9 + 4 ≤ _), (by decide : 22 + 40 ≤ _)⟩)
     dsimp only [Pt.U, Pt.locs, Pt.cells, Pt.slots] at X845 l845 y845 z845 st845 hQ845 hS845 gr845 C845
     subst l845 y845 z845
     have hS := hS.trans hS845 (Nat.le_trans hk (by rw [← show T827.heap = h827 from e827]; exact gr845))
     have hZ : Z.Warmed39 (s.setVm T845.vm).vm := State.Warmed39.trans hZ hS845.1
     have hown : (s.setVm T845.vm).vm.findClass "com/example/fides/fides/RecordIdToStringPinLaw" = some m.cls := by rw [show (s.setVm T845.vm).vm = T845.vm from rfl, hS845.1.alike.findClass]; exact hown
     have X845 : Stand p l e room_1 (s.setVm T845.vm) m #[(.int p0), (.int p1)] below meth c T845 _ _ _ := X845
     have hk : T845.heap.size ≤ T845.heap.size := Nat.le_refl _
     have cr846 := cr828.trans C845
     have ch846 := C845.1
     have sf846_b827 := C845.safe A827.lt sf828_b827
     obtain ⟨rfl, N845q, K845, Ft845, Fk845⟩ := hQ845
     have N845 := Fr.app N814 N845q
     have fa847 := fa829.keep K845 (allS g_b827 all0)
     have fa848 := fa830.keep K845 (ninS ne_b3_b827 nin0)
     have fa849 := fa831.keep K845 (ninS ne_b30_b827 nin0)
     have fa850 := fa832.keep K845
     have fa851 := fa833.keep K845 (ninS ne_ta657_b827 nin0)
     have fa852 := fa834.keep K845 (ninS ne_b611_b827 nin0)
     have fa853 := fa835.keep K845 (ninS ne_b611_b827 nin0)
     have fa854 := fa836.keep K845
     have fa855 := fa837.keep K845 (ninS ne_ta814_b827 nin0)
     have fa856 := fa838.keep K845 (ninS ne_b768_b827 nin0)
     have fa857 := fa839.keep K845 (ninS ne_b768_b827 nin0)
     have fa858 := A827.keep K845
     have z859 : n0 ≤ T845.heap.size := Nat.le_trans z840 K845.1
     have kp860 : Keep h0 T845.heap [] := kp841.trans K845 (allS (Or.inr sz_b827) all0)
     have G861 : ∀ t, Steps p.tables e below (T845.setTop (mkF m 310 #[iv p0, iv p1, iv c0, iv c1, iv c2, iv 2, iv d0, iv d1, iv d2, iv 1, rv b3, rv b30, rv b611, rv b768, .unset, .unset] [(.ref b827)])) t → Steps p.tables e below (s₁.setTop (entryFrame m #[(.int p0), (.int p1)] maxLocals)) t := by
      intro t kt
      refine G844 _ ?_
      refine st845.trans ?_
      exact kt
     obtain ⟨cq862, kq862, q862a, q862b, q862c⟩ := isOf hZ rfl fa858
     obtain ⟨_, vm862, ⟨T862, L862, k862, n862⟩, -, X862, hS862, gr862, ⟨Lc862, hQ862, l862, y862, z862, C862⟩, st862⟩ := X845.virtualBackS hx (y := (⟨"com/example/fides/fides/RecordId", "toString", "()Ljava/lang/String;"⟩ : MethodName)) (z := (⟨"com/example/fides/fides/RecordId", "toString", "()Ljava/lang/String;"⟩ : MethodName)) hown (mvT hZ (hq hw 60 rfl)) (mvT hZ (hq hw 61 rfl)) (notFace_of_selects (args := #[]) (mvT hZ (hq hw 63 rfl))) (mvT hZ (hq hw 63 rfl)) (mvT hZ (hq hw 62 rfl)) (by decide) (backOfSH (s := s) (vm0 := T845.vm) (W := 0) (rm11 l Z a0 hw [] b827 b611 ta657 kb657 (2 : Int32) [(.int (nar .byte (c0.toInt8.toInt32))), (.int (nar .byte (c1.toInt8.toInt32)))] b768 ta814 kb814 (1 : Int32) [(.int (nar .byte (d0.toInt8.toInt32)))] (4 : Int32) [(.int (nar .byte (c0.toInt8.toInt32))), (.int (nar .byte (c1.toInt8.toInt32))), (.int (47 : Int32)), (.int (nar .byte (d0.toInt8.toInt32)))] cst fv T845.heap n0 z859 Ft845 Fk845 fa850 fa852 fa853 fa851 fa854 fa856 fa857 fa855 fa847 (by decide) (own_mkok (by decide) (by decide) (by decide) (by decide) (Nat.le_of_ble_eq_true rfl)) (by decide) (own_mkok (by decide) (by decide) (by decide) (by decide) (Nat.le_of_ble_eq_true rfl)) (by decide) (own_mkok (by decide) (by decide) (by decide) (by decide) (Nat.le_of_ble_eq_true rfl)) (own_cr4) (by decide) rfl SS) hZ (hq hw 64 rfl) (hq hw 35 rfl) (by decide) (by decide) hEL ch846) q862a q862c (g := (mkF m 310 #[iv p0, iv p1, iv c0, iv c1, iv c2, iv 2, iv d0, iv d1, iv d2, iv 1, rv b3, rv b30, rv b611, rv b768, .unset, .unset] [(.ref b827)])) rfl (by rw [hml]; rfl) (Steps.refl _) (argsL := []) (rest := []) (lenOf pd_23 rfl) rfl (by show 2 * 0 + _ ≤ _; exact Nat.le_of_eq rfl) (hb hby at_310) (fun _ _ => ⟨rfl, rfl, (by decide : 13 + 6 ≤ _), (by decide : 62 + 40 ≤ _)⟩)
     dsimp only [Pt.U, Pt.locs, Pt.cells, Pt.slots] at X862 l862 y862 z862 st862 hQ862 hS862 gr862 C862
     subst l862 y862 z862
     have hS := hS.trans hS862 (Nat.le_trans hk (by rw [← show T845.heap = T845.heap from rfl]; exact gr862))
     have hZ : Z.Warmed39 (s.setVm T862.vm).vm := State.Warmed39.trans hZ hS862.1
     have hown : (s.setVm T862.vm).vm.findClass "com/example/fides/fides/RecordIdToStringPinLaw" = some m.cls := by rw [show (s.setVm T862.vm).vm = T862.vm from rfl, hS862.1.alike.findClass]; exact hown
     have X862 : Stand p l e room_1 (s.setVm T862.vm) m #[(.int p0), (.int p1)] below meth c T862 _ _ _ := X862
     have hk : T862.heap.size ≤ T862.heap.size := Nat.le_refl _
     have cr863 := cr846.trans C862
     have ch863 := C862.1
     have sf863_b827 := C862.safe fa858.lt sf846_b827
     obtain ⟨s862, t862, kb862, rfl, N862q, K862, A862, Fc862, Fv862, V862⟩ := hQ862
     have N862 := Fr.app N845 N862q
     have fa864 := fa847.keep K862 all0
     have fa865 := fa848.keep K862 nin0
     have fa866 := fa849.keep K862 nin0
     have fa867 := fa850.keep K862
     have fa868 := fa851.keep K862 nin0
     have fa869 := fa852.keep K862 nin0
     have fa870 := fa853.keep K862 nin0
     have fa871 := fa854.keep K862
     have fa872 := fa855.keep K862 nin0
     have fa873 := fa856.keep K862 nin0
     have fa874 := fa857.keep K862 nin0
     have fa875 := fa858.keep K862
     have fa876 := Ft845.keep K862 nin0
     have fa877 := Fk845.keep K862 nin0
     have z878 : n0 ≤ T862.heap.size := Nat.le_trans z859 K862.1
     have kp879 : Keep h0 T862.heap [] := kp860.trans K862 all0
     have G880 : ∀ t, Steps p.tables e below (T862.setTop (mkF m 324 #[iv p0, iv p1, iv c0, iv c1, iv c2, iv 2, iv d0, iv d1, iv d2, iv 1, rv b3, rv b30, rv b611, rv b768, rv s862, iv 4] [])) t → Steps p.tables e below (s₁.setTop (entryFrame m #[(.int p0), (.int p1)] maxLocals)) t := by
      intro t kt
      refine G861 _ ?_
      refine st862.trans ?_
      refine XS.astore X862.here hx rfl (hb hby at_313) rfl rfl (l' := #[iv p0, iv p1, iv c0, iv c1, iv c2, iv 2, iv d0, iv d1, iv d2, iv 1, rv b3, rv b30, rv b611, rv b768, rv s862, .unset]) rfl ?_
      refine XS.iload X862.here hx rfl (hb hby at_315) rfl ?_
      refine XS.iconst X862.here hx rfl (hb hby at_317) ?_
      refine XS.iadd X862.here hx rfl (hb hby at_318) rfl ?_
      refine XS.iload X862.here hx rfl (hb hby at_319) rfl ?_
      refine XS.iadd X862.here hx rfl (hb hby at_321) rfl ?_
      refine XS.istore X862.here hx rfl (hb hby at_322) rfl (l' := #[iv p0, iv p1, iv c0, iv c1, iv c2, iv 2, iv d0, iv d1, iv d2, iv 1, rv b3, rv b30, rv b611, rv b768, rv s862, iv 4]) rfl ?_
      exact kt
     obtain ⟨T881, L881, X881, e881, N881, K881⟩ := own_tail (l := l) (Z := Z) (a0 := a0) (iv p0) (iv p1) (iv c0) (iv c1) (iv c2) (iv d0) (iv d1) (iv d2) (iv 1) (rv b611) (rv b768) (2 : Int32) (4 : Int32) b3 b30 s862 t862 kb862 (4 : Int32) [(.int (nar .byte (c0.toInt8.toInt32))), (.int (nar .byte (c1.toInt8.toInt32))), (.int (47 : Int32)), (.int (nar .byte (d0.toInt8.toInt32)))] k3 (3 : Int32) [(.int c0), (.int c1), (.int c2)] k30 (3 : Int32) [(.int d0), (.int d1), (.int d2)] cst fv X862 hx hZ hw hby hml hown rfl N862 z878 A862 Fc862 Fv862 V862 fa865 fa866 fa864 (by decide) (by decide) (by decide) (own_atT (xx := (nar .byte (c0.toInt8.toInt32))) (cc := c0) (by decide) (by decide) (by decide) rfl (own_lat c0 hb_c0 hp_c0) (by decide) rfl (by decide)) (own_atT (xx := (nar .byte (c1.toInt8.toInt32))) (cc := c1) (by decide) (by decide) (by decide) rfl (own_lat c1 hb_c1 hp_c1) (by decide) rfl (by decide)) (own_atM (xx := (47 : Int32)) (by decide) (by decide) (by decide) rfl (by decide) (by decide) (by decide)) (own_atK (xx := (nar .byte (d0.toInt8.toInt32))) (cc := d0) (by decide) (by decide) (by decide) rfl (own_lat d0 hb_d0 hp_d0) (by decide) rfl (by decide) (by decide)) (own_atD (by decide)) (own_atD (by decide)) (own_atD (by decide)) SS
     have G882 : ∀ t, Steps p.tables e below (T881.setTop (mkF m 461 #[iv p0, iv p1, iv c0, iv c1, iv c2, iv 2, iv d0, iv d1, iv d2, iv 1, rv b3, rv b30, rv b611, rv b768, rv s862, iv 4] [])) t → Steps p.tables e below (s₁.setTop (entryFrame m #[(.int p0), (.int p1)] maxLocals)) t := fun t kt => G880 t (K881 t kt)
     obtain ⟨fs, hr, hrun, hended, hRW⟩ := X881.leaveW (s := s) hS (by rw [show T881.heap = T862.heap from e881]; exact hk) (v := some (.int (1 : Int32))) (fun h => by rw [Bd.returns] at h; cases h) (BodyLoose.notSynchronized Bd)
     refine ⟨_, _, G882 _ ?_, hrun, hended, _, _, rfl, ?_, hRW.1, hRW.2.1, hRW.2.2.1, hRW.2.2.2.mono (by decide) (by decide)⟩
     ·skip
      refine XS.iconst X881.here hx rfl (hb hby at_461) ?_
      refine XS.goto X881.here hx rfl (pc0 := 462) (pc' := 466) rfl (hb hby at_462) (by decide) (by decide) ?_
      exact retN X881 hx (t := .boolean) Bd.returns (by simp) (hb hby at_466) hr
     ·show Q0 Z p0 p1 cst fv h0 n0 _ T881.heap _
      rw [e881]
      exact ⟨rfl, N881⟩
   ·skip
    have G883 : ∀ t, Steps p.tables e below (T657.setTop (mkF m 197 #[iv p0, iv p1, iv c0, iv c1, iv c2, iv 2, iv d0, iv d1, iv d2, iv 2, rv b3, rv b30, rv b611, .unset, .unset, .unset] [(.int (2 : Int32))])) t → Steps p.tables e below (s₁.setTop (entryFrame m #[(.int p0), (.int p1)] maxLocals)) t := by
     intro t kt
     refine G666 _ ?_
     refine XS.iload X657.here hx rfl (hb hby at_195) rfl ?_
     exact kt
    have G884 : ∀ t, Steps p.tables e below (T657.setTop (mkF m 218 #[iv p0, iv p1, iv c0, iv c1, iv c2, iv 2, iv d0, iv d1, iv d2, iv 2, rv b3, rv b30, rv b611, .unset, .unset, .unset] [(.int (1 : Int32)), (.int (2 : Int32))])) t → Steps p.tables e below (s₁.setTop (entryFrame m #[(.int p0), (.int p1)] maxLocals)) t := by
     intro t kt
     refine G883 _ ?_
     refine XS.ifYes X657.here hx rfl (pc0 := 197) (pc' := 215) rfl (hb hby at_197) rfl ((if0 _ _).trans (feq (by decide)).2) (by decide) (by decide) ?_
     refine XS.iload X657.here hx rfl (hb hby at_215) rfl ?_
     refine XS.iconst X657.here hx rfl (hb hby at_217) ?_
     exact kt
    have G885 : ∀ t, Steps p.tables e below (T657.setTop (mkF m 244 #[iv p0, iv p1, iv c0, iv c1, iv c2, iv 2, iv d0, iv d1, iv d2, iv 2, rv b3, rv b30, rv b611, .unset, .unset, .unset] [(.int (2 : Int32)), (.int (2 : Int32))])) t → Steps p.tables e below (s₁.setTop (entryFrame m #[(.int p0), (.int p1)] maxLocals)) t := by
     intro t kt
     refine G884 _ ?_
     refine XS.icmpYes X657.here hx rfl (pc0 := 218) (pc' := 241) rfl (hb hby at_218) rfl (feq (by decide)).2 (by decide) (by decide) ?_
     refine XS.iload X657.here hx rfl (hb hby at_241) rfl ?_
     refine XS.iconst X657.here hx rfl (hb hby at_243) ?_
     exact kt
    obtain ⟨T886, h886, X886, e886, E886, A886, D886, -, st886⟩ := newO X657 hx hZ hown (hq hw 1 rfl) (hq hw 2 rfl) (hq hw 3 rfl) rfl (g := (mkF m 247 #[iv p0, iv p1, iv c0, iv c1, iv c2, iv 2, iv d0, iv d1, iv d2, iv 2, rv b3, rv b30, rv b611, .unset, .unset, .unset] [])) rfl (hb hby at_247) (by decide) (by decide)
    obtain ⟨b886, g886⟩ : ∃ z, z = T657.heap.size := ⟨_, rfl⟩
    rw [← g886] at A886 D886 st886
    have g_b886 : n0 ≤ b886 := Nat.le_trans z664 (Nat.le_of_eq g886.symm)
    have sz_b886 : h0.size ≤ b886 := Nat.le_trans kp665.1 (Nat.le_of_eq g886.symm)
    have ne_b3_b886 : b3 ≠ b886 := Nat.ne_of_lt (Nat.lt_of_lt_of_le fa660.lt (Nat.le_of_eq g886.symm))
    have ne_b30_b886 : b30 ≠ b886 := Nat.ne_of_lt (Nat.lt_of_lt_of_le fa661.lt (Nat.le_of_eq g886.symm))
    have ne_b611_b886 : b611 ≠ b886 := Nat.ne_of_lt (Nat.lt_of_lt_of_le A657.lt (Nat.le_of_eq g886.symm))
    have ne_ta657_b886 : ta657 ≠ b886 := Nat.ne_of_lt (Nat.lt_of_lt_of_le V657.lt (Nat.le_of_eq g886.symm))
    have ch887 : CHv Z own_EL s.vm h886 := ch658.ext E886
    have cr887 : CHr Z own_EL s.vm h0 s.vm h886 := cr658.trans (CHr.ext E886 ch658)
    have sf887_b886 : Safe Z own_EL s.vm h886 b886 := Safe.ext E886 ch658 (Safe.new (Nat.le_of_eq g886.symm))
    have fa888 := fa659.ext E886
    have fa889 := fa660.ext E886
    have fa890 := fa661.ext E886
    have fa891 := A657.ext E886
    have fa892 := V657.ext E886
    have fa893 := Fc657.ext E886
    have fa894 := Fv657.ext E886
    have z895 : n0 ≤ h886.size := Nat.le_trans z664 E886.1
    have hk := Nat.le_trans hk E886.1
    have kp896 : Keep h0 h886 [] := kp665.ext E886
    have fa897 : Fld Z h886 b886 "java/lang/String" "coder" "B" (.int (0 : Int32)) := D886 (Or.inr (hq hw 27 rfl)) (ty := .byte) (by decide)
    have fa898 : Fld Z h886 b886 "java/lang/String" "value" "[B" .null := D886 (Or.inr (hq hw 29 rfl)) (ty := (.array .byte)) (by decide)
    obtain ⟨T899, h899, k899, X899, e899, E899, A899, st899⟩ := newP X886 hx hZ (hq hw 0 rfl) e886 (g := (mkF m 252 #[iv p0, iv p1, iv c0, iv c1, iv c2, iv 2, iv d0, iv d1, iv d2, iv 2, rv b3, rv b30, rv b611, .unset, .unset, .unset] [(.int (2 : Int32)), (.ref b886), (.ref b886)])) rfl (hb hby at_252) rfl (by decide) (cap := 2) (by decide) (by decide) (by decide) (by decide)
    obtain ⟨b899, g899⟩ : ∃ z, z = h886.size := ⟨_, rfl⟩
    rw [← g899] at A899 st899
    have g_b899 : n0 ≤ b899 := Nat.le_trans z895 (Nat.le_of_eq g899.symm)
    have sz_b899 : h0.size ≤ b899 := Nat.le_trans kp896.1 (Nat.le_of_eq g899.symm)
    have ne_b3_b899 : b3 ≠ b899 := Nat.ne_of_lt (Nat.lt_of_lt_of_le fa889.lt (Nat.le_of_eq g899.symm))
    have ne_b30_b899 : b30 ≠ b899 := Nat.ne_of_lt (Nat.lt_of_lt_of_le fa890.lt (Nat.le_of_eq g899.symm))
    have ne_b611_b899 : b611 ≠ b899 := Nat.ne_of_lt (Nat.lt_of_lt_of_le fa891.lt (Nat.le_of_eq g899.symm))
    have ne_ta657_b899 : ta657 ≠ b899 := Nat.ne_of_lt (Nat.lt_of_lt_of_le fa892.lt (Nat.le_of_eq g899.symm))
    have ne_b886_b899 : b886 ≠ b899 := Nat.ne_of_lt (Nat.lt_of_lt_of_le A886.lt (Nat.le_of_eq g899.symm))
    have ch900 : CHv Z own_EL s.vm h899 := ch887.ext E899
    have cr900 : CHr Z own_EL s.vm h0 s.vm h899 := cr887.trans (CHr.ext E899 ch887)
    have sf900_b886 : Safe Z own_EL s.vm h899 b886 := Safe.ext E899 ch887 sf887_b886
    have sf900_b899 : Safe Z own_EL s.vm h899 b899 := Safe.ext E899 ch887 (Safe.new (Nat.le_of_eq g899.symm))
    have fa901 := fa888.ext E899
    have fa902 := fa889.ext E899
    have fa903 := fa890.ext E899
    have fa904 := fa891.ext E899
    have fa905 := fa892.ext E899
    have fa906 := fa893.ext E899
    have fa907 := fa894.ext E899
    have fa908 := A886.ext E899
    have fa909 := fa897.ext E899
    have fa910 := fa898.ext E899
    have z911 : n0 ≤ h899.size := Nat.le_trans z895 E899.1
    have hk := Nat.le_trans hk E899.1
    have kp912 : Keep h0 h899 [] := kp896.ext E899
    have fa913 : Arv Z h899 b899 k899 .char (2 : Int32) [(.int (0 : Int32)), (.int (0 : Int32))] (.int (0 : Int32)) := (Arv.new A899 (by decide)).pad (pad_rep [] (.int (0 : Int32)) 2)
    obtain ⟨cl914, Ar914, q914, S914, M914, H914, G914⟩ := id fa913
    have hin914 : ¬ ((0 : Int32) < 0 ∨ cl914.slots.size ≤ ((0 : Int32)).toNatClampNeg) := inb_of S914 ⟨by decide, by decide⟩
    obtain ⟨T915, h915, X915, e915, W915, st915⟩ := stC X899 hx hZ e899 Ar914 (j := (0 : Int32)) hin914 (g := (mkF m 258 #[iv p0, iv p1, iv c0, iv c1, iv c2, iv 2, iv d0, iv d1, iv d2, iv 2, rv b3, rv b30, rv b611, .unset, .unset, .unset] [(.int d0), (.int (0 : Int32)), (.ref b899), (.ref b899), (.ref b886), (.ref b886)])) rfl rfl (hb hby at_258)
    have ch916 : CHv Z own_EL s.vm h915 := ch900.wr W915 sf900_b899
    have cr916 : CHr Z own_EL s.vm h0 s.vm h915 := cr900.trans (CHr.wr W915 sf900_b899 ch900)
    have sf916_b886 : Safe Z own_EL s.vm h915 b886 := Safe.wr W915 sf900_b899 ch900 sf900_b886
    have sf916_b899 : Safe Z own_EL s.vm h915 b899 := Safe.wr W915 sf900_b899 ch900 sf900_b899
    have fa917 := fa901.wr W915 g_b899
    have fa918 := fa902.other W915 ne_b3_b899
    have fa919 := fa903.other W915 ne_b30_b899
    have fa920 := fa904.wr W915
    have fa921 := fa905.other W915 ne_ta657_b899
    have fa922 := fa906.other W915 (Or.inl ne_b611_b899)
    have fa923 := fa907.other W915 (Or.inl ne_b611_b899)
    have fa924 := fa908.wr W915
    have fa925 := fa909.other W915 (Or.inl ne_b886_b899)
    have fa926 := fa910.other W915 (Or.inl ne_b886_b899)
    have z927 : n0 ≤ h915.size := Nat.le_trans z911 (Nat.le_of_eq W915.size.symm)
    have hk := Nat.le_trans hk (Nat.le_of_eq W915.size.symm)
    have kp928 : Keep h0 h915 [] := kp912.wr W915 (Or.inr sz_b899)
    have fa929 : Arv Z h915 b899 k899 .char (2 : Int32) [(.int (nar .char d0)), (.int (0 : Int32))] (.int (0 : Int32)) := Arv.set Ar914 q914 S914 M914 H914 G914 (fits_nar_char _) W915 0 rfl (Nat.le_of_ble_eq_true rfl)
    have N915 := Fr.snoc X915 N657 g_b899
    obtain ⟨cl930, Ar930, q930, S930, M930, H930, G930⟩ := id fa929
    have hin930 : ¬ ((1 : Int32) < 0 ∨ cl930.slots.size ≤ ((1 : Int32)).toNatClampNeg) := inb_of S930 ⟨by decide, by decide⟩
    obtain ⟨T931, h931, X931, e931, W931, st931⟩ := stC X915 hx hZ e915 Ar930 (j := (1 : Int32)) hin930 (g := (mkF m 263 #[iv p0, iv p1, iv c0, iv c1, iv c2, iv 2, iv d0, iv d1, iv d2, iv 2, rv b3, rv b30, rv b611, .unset, .unset, .unset] [(.int d1), (.int (1 : Int32)), (.ref b899), (.ref b899), (.ref b886), (.ref b886)])) rfl rfl (hb hby at_263)
    have ch932 : CHv Z own_EL s.vm h931 := ch916.wr W931 sf916_b899
    have cr932 : CHr Z own_EL s.vm h0 s.vm h931 := cr916.trans (CHr.wr W931 sf916_b899 ch916)
    have sf932_b886 : Safe Z own_EL s.vm h931 b886 := Safe.wr W931 sf916_b899 ch916 sf916_b886
    have sf932_b899 : Safe Z own_EL s.vm h931 b899 := Safe.wr W931 sf916_b899 ch916 sf916_b899
    have fa933 := fa917.wr W931 g_b899
    have fa934 := fa918.other W931 ne_b3_b899
    have fa935 := fa919.other W931 ne_b30_b899
    have fa936 := fa920.wr W931
    have fa937 := fa921.other W931 ne_ta657_b899
    have fa938 := fa922.other W931 (Or.inl ne_b611_b899)
    have fa939 := fa923.other W931 (Or.inl ne_b611_b899)
    have fa940 := fa924.wr W931
    have fa941 := fa925.other W931 (Or.inl ne_b886_b899)
    have fa942 := fa926.other W931 (Or.inl ne_b886_b899)
    have z943 : n0 ≤ h931.size := Nat.le_trans z927 (Nat.le_of_eq W931.size.symm)
    have hk := Nat.le_trans hk (Nat.le_of_eq W931.size.symm)
    have kp944 : Keep h0 h931 [] := kp928.wr W931 (Or.inr sz_b899)
    have fa945 : Arv Z h931 b899 k899 .char (2 : Int32) [(.int (nar .char d0)), (.int (nar .char d1))] (.int (0 : Int32)) := Arv.set Ar930 q930 S930 M930 H930 G930 (fits_nar_char _) W931 1 rfl (Nat.le_of_ble_eq_true rfl)
    have N931 := Fr.snoc X931 N915 g_b899
    have fa946 : Arv Z h931 b899 k899 .char (2 : Int32) [(.int d0), (.int d1)] (.int (0 : Int32)) := by have q := fa945; rw [own_narc d0 hb_d0, own_narc d1 hb_d1] at q; exact q
    have G947 : ∀ t, Steps p.tables e below (T931.setTop (mkF m 264 #[iv p0, iv p1, iv c0, iv c1, iv c2, iv 2, iv d0, iv d1, iv d2, iv 2, rv b3, rv b30, rv b611, .unset, .unset, .unset] [(.ref b899), (.ref b886), (.ref b886)])) t → Steps p.tables e below (s₁.setTop (entryFrame m #[(.int p0), (.int p1)] maxLocals)) t := by
     intro t kt
     refine G885 _ ?_
     refine XS.icmpNo X657.here hx rfl (hb hby at_244) rfl (teq (by decide)).2 ?_
     refine st886 _ ?_
     refine XS.dup X886.here hx rfl (hb hby at_250) rfl rfl ?_
     refine XS.iconst X886.here hx rfl (hb hby at_251) ?_
     refine st899 _ ?_
     refine XS.dup X899.here hx rfl (hb hby at_254) rfl rfl ?_
     refine XS.iconst X899.here hx rfl (hb hby at_255) ?_
     refine XS.iload X899.here hx rfl (hb hby at_256) rfl ?_
     refine st915 _ ?_
     refine XS.dup X915.here hx rfl (hb hby at_259) rfl rfl ?_
     refine XS.iconst X915.here hx rfl (hb hby at_260) ?_
     refine XS.iload X915.here hx rfl (hb hby at_261) rfl ?_
     show Steps p.tables e below (T915.setTop (mkF m 263 #[iv p0, iv p1, iv c0, iv c1, iv c2, iv 2, iv d0, iv d1, iv d2, iv 2, rv b3, rv b30, rv b611, .unset, .unset, .unset] [(.int d1), (.int (1 : Int32)), (.ref b899), (.ref b899), (.ref b886), (.ref b886)])) _
     refine st931 _ ?_
     exact kt
    obtain ⟨_, _, ⟨T948, L948, k948, n948⟩, -, X948, ⟨Lc948, hQ948, l948, y948, z948⟩, st948⟩ := X931.specialBack hx (y := (⟨"java/lang/String", "<init>", "([C)V"⟩ : MethodName)) rfl hown (mvT hZ (hq hw 4 rfl)) (mvT hZ (hq hw 5 rfl)) (mvT hZ (hq hw 6 rfl)) (by decide) (backOf (W := 1) (rmSF_2 l Z a0 hw [] b886 b899 d0 d1 k899 cst fv h931 n0 z943 fa940 fa942 fa941 fa946 fa933 g_b886 ne_b886_b899 hb_d0 hb_d1 hp_d0 hp_d1 SS) hZ (hq hw 6 rfl) (hq hw 3 rfl) (by decide) (by decide)) (g := (mkF m 264 #[iv p0, iv p1, iv c0, iv c1, iv c2, iv 2, iv d0, iv d1, iv d2, iv 2, rv b3, rv b30, rv b611, .unset, .unset, .unset] [(.ref b899), (.ref b886), (.ref b886)])) rfl (by rw [hml]; rfl) (Steps.refl _) (a := b886) (argsL := [(.ref b899)]) (rest := [(.ref b886)]) (lenOf pd_26 rfl) rfl (by show 2 * 0 + _ ≤ _; exact Nat.le_of_eq rfl) (hb hby at_264) (fun _ _ => ⟨rfl, e931, (by decide : 7 + 1 ≤ _), (by decide : 20 + 2 ≤ _)⟩)
    dsimp only [Pt.U, Pt.locs, Pt.cells, Pt.slots] at X948 l948 y948 z948 st948 hQ948
    subst l948 y948 z948
    rcases hQ948 with ⟨rfl, N948q, K948, A948, hq948, Fc948, ta948, kb948, Fv948, sz948, g_ta948, V948⟩
    ·skip
     have N948 := Fr.app N931 N948q
     have szk948 : h0.size ≤ ta948 := Nat.le_trans kp944.1 sz948
     have ne_b3_ta948 : b3 ≠ ta948 := Nat.ne_of_lt (Nat.lt_of_lt_of_le fa934.lt sz948)
     have ne_b30_ta948 : b30 ≠ ta948 := Nat.ne_of_lt (Nat.lt_of_lt_of_le fa935.lt sz948)
     have ne_b611_ta948 : b611 ≠ ta948 := Nat.ne_of_lt (Nat.lt_of_lt_of_le fa936.lt sz948)
     have ne_ta657_ta948 : ta657 ≠ ta948 := Nat.ne_of_lt (Nat.lt_of_lt_of_le fa937.lt sz948)
     have ne_b886_ta948 : b886 ≠ ta948 := Nat.ne_of_lt (Nat.lt_of_lt_of_le fa940.lt sz948)
     have ne_b899_ta948 : b899 ≠ ta948 := Nat.ne_of_lt (Nat.lt_of_lt_of_le fa946.lt sz948)
     have ch949 : CHv Z own_EL s.vm T948.heap := ch932.keep K948 (allS sf932_b886 all0)
     have cr949 : CHr Z own_EL s.vm h0 s.vm T948.heap := cr932.trans (CHr.keep K948 (allS sf932_b886 all0) ch932)
     have sf949_b886 : Safe Z own_EL s.vm T948.heap b886 := Safe.keep K948 (allS sf932_b886 all0) ch932 sf932_b886
     have sf949_b899 : Safe Z own_EL s.vm T948.heap b899 := Safe.keep K948 (allS sf932_b886 all0) ch932 sf932_b899
     have fa950 := fa933.keep K948 (allS g_b886 all0)
     have fa951 := fa934.keep K948 (ninS ne_b3_b886 nin0)
     have fa952 := fa935.keep K948 (ninS ne_b30_b886 nin0)
     have fa953 := fa936.keep K948
     have fa954 := fa937.keep K948 (ninS ne_ta657_b886 nin0)
     have fa955 := fa938.keep K948 (ninS ne_b611_b886 nin0)
     have fa956 := fa939.keep K948 (ninS ne_b611_b886 nin0)
     have fa957 := fa940.keep K948
     have fa958 := fa946.keep K948 (ninS (Ne.symm ne_b886_b899) nin0)
     have z959 : n0 ≤ T948.heap.size := Nat.le_trans z943 K948.1
     have hk := Nat.le_trans hk K948.1
     have kp960 : Keep h0 T948.heap [] := kp944.trans K948 (allS (Or.inr sz_b886) all0)
     obtain ⟨T961, h961, X961, e961, E961, A961, D961, -, st961⟩ := newO X948 hx hZ hown (hq hw 33 rfl) (hq hw 34 rfl) (hq hw 35 rfl) rfl (g := (mkF m 299 #[iv p0, iv p1, iv c0, iv c1, iv c2, iv 2, iv d0, iv d1, iv d2, iv 2, rv b3, rv b30, rv b611, rv b886, .unset, .unset] [])) rfl (hb hby at_299) (by decide) (by decide)
     obtain ⟨b961, g961⟩ : ∃ z, z = T948.heap.size := ⟨_, rfl⟩
     rw [← g961] at A961 D961 st961
     have g_b961 : n0 ≤ b961 := Nat.le_trans z959 (Nat.le_of_eq g961.symm)
     have sz_b961 : h0.size ≤ b961 := Nat.le_trans kp960.1 (Nat.le_of_eq g961.symm)
     have ne_b3_b961 : b3 ≠ b961 := Nat.ne_of_lt (Nat.lt_of_lt_of_le fa951.lt (Nat.le_of_eq g961.symm))
     have ne_b30_b961 : b30 ≠ b961 := Nat.ne_of_lt (Nat.lt_of_lt_of_le fa952.lt (Nat.le_of_eq g961.symm))
     have ne_b611_b961 : b611 ≠ b961 := Nat.ne_of_lt (Nat.lt_of_lt_of_le fa953.lt (Nat.le_of_eq g961.symm))
     have ne_ta657_b961 : ta657 ≠ b961 := Nat.ne_of_lt (Nat.lt_of_lt_of_le fa954.lt (Nat.le_of_eq g961.symm))
     have ne_b886_b961 : b886 ≠ b961 := Nat.ne_of_lt (Nat.lt_of_lt_of_le A948.lt (Nat.le_of_eq g961.symm))
     have ne_ta948_b961 : ta948 ≠ b961 := Nat.ne_of_lt (Nat.lt_of_lt_of_le V948.lt (Nat.le_of_eq g961.symm))
     have ch962 : CHv Z own_EL s.vm h961 := ch949.ext E961
     have cr962 : CHr Z own_EL s.vm h0 s.vm h961 := cr949.trans (CHr.ext E961 ch949)
     have sf962_b961 : Safe Z own_EL s.vm h961 b961 := Safe.ext E961 ch949 (Safe.new (Nat.le_of_eq g961.symm))
     have fa963 := fa950.ext E961
     have fa964 := fa951.ext E961
     have fa965 := fa952.ext E961
     have fa966 := fa953.ext E961
     have fa967 := fa954.ext E961
     have fa968 := fa955.ext E961
     have fa969 := fa956.ext E961
     have fa970 := A948.ext E961
     have fa971 := V948.ext E961
     have fa972 := Fc948.ext E961
     have fa973 := Fv948.ext E961
     have z974 : n0 ≤ h961.size := Nat.le_trans z959 E961.1
     have hk := Nat.le_trans hk E961.1
     have kp975 : Keep h0 h961 [] := kp960.ext E961
     have fa976 : Fld Z h961 b961 "com/example/fides/fides/RecordId" "table" "Ljava/lang/String;" .null := D961 (Or.inr (hq hw 57 rfl)) (ty := (.object "java/lang/String")) (by decide)
     have fa977 : Fld Z h961 b961 "com/example/fides/fides/RecordId" "key" "Ljava/lang/String;" .null := D961 (Or.inr (hq hw 59 rfl)) (ty := (.object "java/lang/String")) (by decide)
     have G978 : ∀ t, Steps p.tables e below (T961.setTop (mkF m 307 #[iv p0, iv p1, iv c0, iv c1, iv c2, iv 2, iv d0, iv d1, iv d2, iv 2, rv b3, rv b30, rv b611, rv b886, .unset, .unset] [(.ref b886), (.ref b611), (.ref b961), (.ref b961)])) t → Steps p.tables e below (s₁.setTop (entryFrame m #[(.int p0), (.int p1)] maxLocals)) t := by
      intro t kt
      refine G947 _ ?_
      refine st948.trans ?_
      refine XS.astore X948.here hx rfl (hb hby at_267) rfl rfl (l' := #[iv p0, iv p1, iv c0, iv c1, iv c2, iv 2, iv d0, iv d1, iv d2, iv 2, rv b3, rv b30, rv b611, rv b886, .unset, .unset]) rfl ?_
      refine XS.goto X948.here hx rfl (pc0 := 269) (pc' := 299) rfl (hb hby at_269) (by decide) (by decide) ?_
      refine st961 _ ?_
      refine XS.dup X961.here hx rfl (hb hby at_302) rfl rfl ?_
      refine XS.aload X961.here hx rfl (hb hby at_303) rfl rfl ?_
      refine XS.aload X961.here hx rfl (hb hby at_305) rfl rfl ?_
      exact kt
     obtain ⟨_, vm979, ⟨T979, L979, k979, n979⟩, -, X979, hS979, gr979, ⟨Lc979, hQ979, l979, y979, z979, C979⟩, st979⟩ := X961.specialBackS hx (y := (⟨"com/example/fides/fides/RecordId", "<init>", "(Ljava/lang/String;Ljava/lang/String;)V"⟩ : MethodName)) rfl hown (mvT hZ (hq hw 36 rfl)) (mvT hZ (hq hw 37 rfl)) (mvT hZ (hq hw 38 rfl)) (by decide) (backOfSH (s := s) (vm0 := s.vm) (W := 1) (rm7 l Z a0 hw [] b961 b611 b886 ta657 kb657 (2 : Int32) [(.int (nar .byte (c0.toInt8.toInt32))), (.int (nar .byte (c1.toInt8.toInt32)))] h961 n0 z974 A961 fa976 fa977 fa966 fa969 fa967 g_b961 (Ne.symm ne_b611_b961) (Ne.symm ne_ta657_b961) (by decide)) hZ (hq hw 38 rfl) (hq hw 35 rfl) (by decide) (by decide) hEL ch962) (g := (mkF m 307 #[iv p0, iv p1, iv c0, iv c1, iv c2, iv 2, iv d0, iv d1, iv d2, iv 2, rv b3, rv b30, rv b611, rv b886, .unset, .unset] [(.ref b886), (.ref b611), (.ref b961), (.ref b961)])) rfl (by rw [hml]; rfl) (Steps.refl _) (a := b961) (argsL := [(.ref b611), (.ref b886)]) (rest := [(.ref b961)]) (lenOf pd_27 rfl) rfl (by show 2 * 0 + _ ≤ _; exact Nat.le_of_eq rfl) (hb hby at_307) (fun _ _ => ⟨rfl, e961, (by decide : 9 + 4 ≤ _), (by decide : 24 + 40 ≤ _)⟩)
     dsimp only [Pt.U, Pt.locs, Pt.cells, Pt.slots] at X979 l979 y979 z979 st979 hQ979 hS979 gr979 C979
     subst l979 y979 z979
     have hS := hS.trans hS979 (Nat.le_trans hk (by rw [← show T961.heap = h961 from e961]; exact gr979))
     have hZ : Z.Warmed39 (s.setVm T979.vm).vm := State.Warmed39.trans hZ hS979.1
     have hown : (s.setVm T979.vm).vm.findClass "com/example/fides/fides/RecordIdToStringPinLaw" = some m.cls := by rw [show (s.setVm T979.vm).vm = T979.vm from rfl, hS979.1.alike.findClass]; exact hown
     have X979 : Stand p l e room_1 (s.setVm T979.vm) m #[(.int p0), (.int p1)] below meth c T979 _ _ _ := X979
     have hk : T979.heap.size ≤ T979.heap.size := Nat.le_refl _
     have cr980 := cr962.trans C979
     have ch980 := C979.1
     have sf980_b961 := C979.safe A961.lt sf962_b961
     obtain ⟨rfl, N979q, K979, Ft979, Fk979⟩ := hQ979
     have N979 := Fr.app N948 N979q
     have fa981 := fa963.keep K979 (allS g_b961 all0)
     have fa982 := fa964.keep K979 (ninS ne_b3_b961 nin0)
     have fa983 := fa965.keep K979 (ninS ne_b30_b961 nin0)
     have fa984 := fa966.keep K979
     have fa985 := fa967.keep K979 (ninS ne_ta657_b961 nin0)
     have fa986 := fa968.keep K979 (ninS ne_b611_b961 nin0)
     have fa987 := fa969.keep K979 (ninS ne_b611_b961 nin0)
     have fa988 := fa970.keep K979
     have fa989 := fa971.keep K979 (ninS ne_ta948_b961 nin0)
     have fa990 := fa972.keep K979 (ninS ne_b886_b961 nin0)
     have fa991 := fa973.keep K979 (ninS ne_b886_b961 nin0)
     have fa992 := A961.keep K979
     have z993 : n0 ≤ T979.heap.size := Nat.le_trans z974 K979.1
     have kp994 : Keep h0 T979.heap [] := kp975.trans K979 (allS (Or.inr sz_b961) all0)
     have G995 : ∀ t, Steps p.tables e below (T979.setTop (mkF m 310 #[iv p0, iv p1, iv c0, iv c1, iv c2, iv 2, iv d0, iv d1, iv d2, iv 2, rv b3, rv b30, rv b611, rv b886, .unset, .unset] [(.ref b961)])) t → Steps p.tables e below (s₁.setTop (entryFrame m #[(.int p0), (.int p1)] maxLocals)) t := by
      intro t kt
      refine G978 _ ?_
      refine st979.trans ?_
      exact kt
     obtain ⟨cq996, kq996, q996a, q996b, q996c⟩ := isOf hZ rfl fa992
     obtain ⟨_, vm996, ⟨T996, L996, k996, n996⟩, -, X996, hS996, gr996, ⟨Lc996, hQ996, l996, y996, z996, C996⟩, st996⟩ := X979.virtualBackS hx (y := (⟨"com/example/fides/fides/RecordId", "toString", "()Ljava/lang/String;"⟩ : MethodName)) (z := (⟨"com/example/fides/fides/RecordId", "toString", "()Ljava/lang/String;"⟩ : MethodName)) hown (mvT hZ (hq hw 60 rfl)) (mvT hZ (hq hw 61 rfl)) (notFace_of_selects (args := #[]) (mvT hZ (hq hw 63 rfl))) (mvT hZ (hq hw 63 rfl)) (mvT hZ (hq hw 62 rfl)) (by decide) (backOfSH (s := s) (vm0 := T979.vm) (W := 0) (rm11 l Z a0 hw [] b961 b611 ta657 kb657 (2 : Int32) [(.int (nar .byte (c0.toInt8.toInt32))), (.int (nar .byte (c1.toInt8.toInt32)))] b886 ta948 kb948 (2 : Int32) [(.int (nar .byte (d0.toInt8.toInt32))), (.int (nar .byte (d1.toInt8.toInt32)))] (5 : Int32) [(.int (nar .byte (c0.toInt8.toInt32))), (.int (nar .byte (c1.toInt8.toInt32))), (.int (47 : Int32)), (.int (nar .byte (d0.toInt8.toInt32))), (.int (nar .byte (d1.toInt8.toInt32)))] cst fv T979.heap n0 z993 Ft979 Fk979 fa984 fa986 fa987 fa985 fa988 fa990 fa991 fa989 fa981 (by decide) (own_mkok (by decide) (by decide) (by decide) (by decide) (Nat.le_of_ble_eq_true rfl)) (by decide) (own_mkok (by decide) (by decide) (by decide) (by decide) (Nat.le_of_ble_eq_true rfl)) (by decide) (own_mkok (by decide) (by decide) (by decide) (by decide) (Nat.le_of_ble_eq_true rfl)) (own_cr5) (by decide) rfl SS) hZ (hq hw 64 rfl) (hq hw 35 rfl) (by decide) (by decide) hEL ch980) q996a q996c (g := (mkF m 310 #[iv p0, iv p1, iv c0, iv c1, iv c2, iv 2, iv d0, iv d1, iv d2, iv 2, rv b3, rv b30, rv b611, rv b886, .unset, .unset] [(.ref b961)])) rfl (by rw [hml]; rfl) (Steps.refl _) (argsL := []) (rest := []) (lenOf pd_23 rfl) rfl (by show 2 * 0 + _ ≤ _; exact Nat.le_of_eq rfl) (hb hby at_310) (fun _ _ => ⟨rfl, rfl, (by decide : 13 + 6 ≤ _), (by decide : 64 + 40 ≤ _)⟩)
     dsimp only [Pt.U, Pt.locs, Pt.cells, Pt.slots] at X996 l996 y996 z996 st996 hQ996 hS996 gr996 C996
     subst l996 y996 z996
     have hS := hS.trans hS996 (Nat.le_trans hk (by rw [← show T979.heap = T979.heap from rfl]; exact gr996))
     have hZ : Z.Warmed39 (s.setVm T996.vm).vm := State.Warmed39.trans hZ hS996.1
     have hown : (s.setVm T996.vm).vm.findClass "com/example/fides/fides/RecordIdToStringPinLaw" = some m.cls := by rw [show (s.setVm T996.vm).vm = T996.vm from rfl, hS996.1.alike.findClass]; exact hown
     have X996 : Stand p l e room_1 (s.setVm T996.vm) m #[(.int p0), (.int p1)] below meth c T996 _ _ _ := X996
     have hk : T996.heap.size ≤ T996.heap.size := Nat.le_refl _
     have cr997 := cr980.trans C996
     have ch997 := C996.1
     have sf997_b961 := C996.safe fa992.lt sf980_b961
     obtain ⟨s996, t996, kb996, rfl, N996q, K996, A996, Fc996, Fv996, V996⟩ := hQ996
     have N996 := Fr.app N979 N996q
     have fa998 := fa981.keep K996 all0
     have fa999 := fa982.keep K996 nin0
     have fa1000 := fa983.keep K996 nin0
     have fa1001 := fa984.keep K996
     have fa1002 := fa985.keep K996 nin0
     have fa1003 := fa986.keep K996 nin0
     have fa1004 := fa987.keep K996 nin0
     have fa1005 := fa988.keep K996
     have fa1006 := fa989.keep K996 nin0
     have fa1007 := fa990.keep K996 nin0
     have fa1008 := fa991.keep K996 nin0
     have fa1009 := fa992.keep K996
     have fa1010 := Ft979.keep K996 nin0
     have fa1011 := Fk979.keep K996 nin0
     have z1012 : n0 ≤ T996.heap.size := Nat.le_trans z993 K996.1
     have kp1013 : Keep h0 T996.heap [] := kp994.trans K996 all0
     have G1014 : ∀ t, Steps p.tables e below (T996.setTop (mkF m 324 #[iv p0, iv p1, iv c0, iv c1, iv c2, iv 2, iv d0, iv d1, iv d2, iv 2, rv b3, rv b30, rv b611, rv b886, rv s996, iv 5] [])) t → Steps p.tables e below (s₁.setTop (entryFrame m #[(.int p0), (.int p1)] maxLocals)) t := by
      intro t kt
      refine G995 _ ?_
      refine st996.trans ?_
      refine XS.astore X996.here hx rfl (hb hby at_313) rfl rfl (l' := #[iv p0, iv p1, iv c0, iv c1, iv c2, iv 2, iv d0, iv d1, iv d2, iv 2, rv b3, rv b30, rv b611, rv b886, rv s996, .unset]) rfl ?_
      refine XS.iload X996.here hx rfl (hb hby at_315) rfl ?_
      refine XS.iconst X996.here hx rfl (hb hby at_317) ?_
      refine XS.iadd X996.here hx rfl (hb hby at_318) rfl ?_
      refine XS.iload X996.here hx rfl (hb hby at_319) rfl ?_
      refine XS.iadd X996.here hx rfl (hb hby at_321) rfl ?_
      refine XS.istore X996.here hx rfl (hb hby at_322) rfl (l' := #[iv p0, iv p1, iv c0, iv c1, iv c2, iv 2, iv d0, iv d1, iv d2, iv 2, rv b3, rv b30, rv b611, rv b886, rv s996, iv 5]) rfl ?_
      exact kt
     obtain ⟨T1015, L1015, X1015, e1015, N1015, K1015⟩ := own_tail (l := l) (Z := Z) (a0 := a0) (iv p0) (iv p1) (iv c0) (iv c1) (iv c2) (iv d0) (iv d1) (iv d2) (iv 2) (rv b611) (rv b886) (2 : Int32) (5 : Int32) b3 b30 s996 t996 kb996 (5 : Int32) [(.int (nar .byte (c0.toInt8.toInt32))), (.int (nar .byte (c1.toInt8.toInt32))), (.int (47 : Int32)), (.int (nar .byte (d0.toInt8.toInt32))), (.int (nar .byte (d1.toInt8.toInt32)))] k3 (3 : Int32) [(.int c0), (.int c1), (.int c2)] k30 (3 : Int32) [(.int d0), (.int d1), (.int d2)] cst fv X996 hx hZ hw hby hml hown rfl N996 z1012 A996 Fc996 Fv996 V996 fa999 fa1000 fa998 (by decide) (by decide) (by decide) (own_atT (xx := (nar .byte (c0.toInt8.toInt32))) (cc := c0) (by decide) (by decide) (by decide) rfl (own_lat c0 hb_c0 hp_c0) (by decide) rfl (by decide)) (own_atT (xx := (nar .byte (c1.toInt8.toInt32))) (cc := c1) (by decide) (by decide) (by decide) rfl (own_lat c1 hb_c1 hp_c1) (by decide) rfl (by decide)) (own_atM (xx := (47 : Int32)) (by decide) (by decide) (by decide) rfl (by decide) (by decide) (by decide)) (own_atK (xx := (nar .byte (d0.toInt8.toInt32))) (cc := d0) (by decide) (by decide) (by decide) rfl (own_lat d0 hb_d0 hp_d0) (by decide) rfl (by decide) (by decide)) (own_atK (xx := (nar .byte (d1.toInt8.toInt32))) (cc := d1) (by decide) (by decide) (by decide) rfl (own_lat d1 hb_d1 hp_d1) (by decide) rfl (by decide) (by decide)) (own_atD (by decide)) (own_atD (by decide)) SS
     have G1016 : ∀ t, Steps p.tables e below (T1015.setTop (mkF m 461 #[iv p0, iv p1, iv c0, iv c1, iv c2, iv 2, iv d0, iv d1, iv d2, iv 2, rv b3, rv b30, rv b611, rv b886, rv s996, iv 5] [])) t → Steps p.tables e below (s₁.setTop (entryFrame m #[(.int p0), (.int p1)] maxLocals)) t := fun t kt => G1014 t (K1015 t kt)
     obtain ⟨fs, hr, hrun, hended, hRW⟩ := X1015.leaveW (s := s) hS (by rw [show T1015.heap = T996.heap from e1015]; exact hk) (v := some (.int (1 : Int32))) (fun h => by rw [Bd.returns] at h; cases h) (BodyLoose.notSynchronized Bd)
     refine ⟨_, _, G1016 _ ?_, hrun, hended, _, _, rfl, ?_, hRW.1, hRW.2.1, hRW.2.2.1, hRW.2.2.2.mono (by decide) (by decide)⟩
     ·skip
      refine XS.iconst X1015.here hx rfl (hb hby at_461) ?_
      refine XS.goto X1015.here hx rfl (pc0 := 462) (pc' := 466) rfl (hb hby at_462) (by decide) (by decide) ?_
      exact retN X1015 hx (t := .boolean) Bd.returns (by simp) (hb hby at_466) hr
     ·show Q0 Z p0 p1 cst fv h0 n0 _ T1015.heap _
      rw [e1015]
      exact ⟨rfl, N1015⟩
   ·skip
    have G1017 : ∀ t, Steps p.tables e below (T657.setTop (mkF m 197 #[iv p0, iv p1, iv c0, iv c1, iv c2, iv 2, iv d0, iv d1, iv d2, iv 3, rv b3, rv b30, rv b611, .unset, .unset, .unset] [(.int (3 : Int32))])) t → Steps p.tables e below (s₁.setTop (entryFrame m #[(.int p0), (.int p1)] maxLocals)) t := by
     intro t kt
     refine G666 _ ?_
     refine XS.iload X657.here hx rfl (hb hby at_195) rfl ?_
     exact kt
    have G1018 : ∀ t, Steps p.tables e below (T657.setTop (mkF m 218 #[iv p0, iv p1, iv c0, iv c1, iv c2, iv 2, iv d0, iv d1, iv d2, iv 3, rv b3, rv b30, rv b611, .unset, .unset, .unset] [(.int (1 : Int32)), (.int (3 : Int32))])) t → Steps p.tables e below (s₁.setTop (entryFrame m #[(.int p0), (.int p1)] maxLocals)) t := by
     intro t kt
     refine G1017 _ ?_
     refine XS.ifYes X657.here hx rfl (pc0 := 197) (pc' := 215) rfl (hb hby at_197) rfl ((if0 _ _).trans (feq (by decide)).2) (by decide) (by decide) ?_
     refine XS.iload X657.here hx rfl (hb hby at_215) rfl ?_
     refine XS.iconst X657.here hx rfl (hb hby at_217) ?_
     exact kt
    have G1019 : ∀ t, Steps p.tables e below (T657.setTop (mkF m 244 #[iv p0, iv p1, iv c0, iv c1, iv c2, iv 2, iv d0, iv d1, iv d2, iv 3, rv b3, rv b30, rv b611, .unset, .unset, .unset] [(.int (2 : Int32)), (.int (3 : Int32))])) t → Steps p.tables e below (s₁.setTop (entryFrame m #[(.int p0), (.int p1)] maxLocals)) t := by
     intro t kt
     refine G1018 _ ?_
     refine XS.icmpYes X657.here hx rfl (pc0 := 218) (pc' := 241) rfl (hb hby at_218) rfl (feq (by decide)).2 (by decide) (by decide) ?_
     refine XS.iload X657.here hx rfl (hb hby at_241) rfl ?_
     refine XS.iconst X657.here hx rfl (hb hby at_243) ?_
     exact kt
    obtain ⟨T1020, h1020, X1020, e1020, E1020, A1020, D1020, -, st1020⟩ := newO X657 hx hZ hown (hq hw 1 rfl) (hq hw 2 rfl) (hq hw 3 rfl) rfl (g := (mkF m 272 #[iv p0, iv p1, iv c0, iv c1, iv c2, iv 2, iv d0, iv d1, iv d2, iv 3, rv b3, rv b30, rv b611, .unset, .unset, .unset] [])) rfl (hb hby at_272) (by decide) (by decide)
    obtain ⟨b1020, g1020⟩ : ∃ z, z = T657.heap.size := ⟨_, rfl⟩
    rw [← g1020] at A1020 D1020 st1020
    have g_b1020 : n0 ≤ b1020 := Nat.le_trans z664 (Nat.le_of_eq g1020.symm)
    have sz_b1020 : h0.size ≤ b1020 := Nat.le_trans kp665.1 (Nat.le_of_eq g1020.symm)
    have ne_b3_b1020 : b3 ≠ b1020 := Nat.ne_of_lt (Nat.lt_of_lt_of_le fa660.lt (Nat.le_of_eq g1020.symm))
    have ne_b30_b1020 : b30 ≠ b1020 := Nat.ne_of_lt (Nat.lt_of_lt_of_le fa661.lt (Nat.le_of_eq g1020.symm))
    have ne_b611_b1020 : b611 ≠ b1020 := Nat.ne_of_lt (Nat.lt_of_lt_of_le A657.lt (Nat.le_of_eq g1020.symm))
    have ne_ta657_b1020 : ta657 ≠ b1020 := Nat.ne_of_lt (Nat.lt_of_lt_of_le V657.lt (Nat.le_of_eq g1020.symm))
    have ch1021 : CHv Z own_EL s.vm h1020 := ch658.ext E1020
    have cr1021 : CHr Z own_EL s.vm h0 s.vm h1020 := cr658.trans (CHr.ext E1020 ch658)
    have sf1021_b1020 : Safe Z own_EL s.vm h1020 b1020 := Safe.ext E1020 ch658 (Safe.new (Nat.le_of_eq g1020.symm))
    have fa1022 := fa659.ext E1020
    have fa1023 := fa660.ext E1020
    have fa1024 := fa661.ext E1020
    have fa1025 := A657.ext E1020
    have fa1026 := V657.ext E1020
    have fa1027 := Fc657.ext E1020
    have fa1028 := Fv657.ext E1020
    have z1029 : n0 ≤ h1020.size := Nat.le_trans z664 E1020.1
    have hk := Nat.le_trans hk E1020.1
    have kp1030 : Keep h0 h1020 [] := kp665.ext E1020
    have fa1031 : Fld Z h1020 b1020 "java/lang/String" "coder" "B" (.int (0 : Int32)) := D1020 (Or.inr (hq hw 27 rfl)) (ty := .byte) (by decide)
    have fa1032 : Fld Z h1020 b1020 "java/lang/String" "value" "[B" .null := D1020 (Or.inr (hq hw 29 rfl)) (ty := (.array .byte)) (by decide)
    obtain ⟨T1033, h1033, k1033, X1033, e1033, E1033, A1033, st1033⟩ := newP X1020 hx hZ (hq hw 0 rfl) e1020 (g := (mkF m 277 #[iv p0, iv p1, iv c0, iv c1, iv c2, iv 2, iv d0, iv d1, iv d2, iv 3, rv b3, rv b30, rv b611, .unset, .unset, .unset] [(.int (3 : Int32)), (.ref b1020), (.ref b1020)])) rfl (hb hby at_277) rfl (by decide) (cap := 3) (by decide) (by decide) (by decide) (by decide)
    obtain ⟨b1033, g1033⟩ : ∃ z, z = h1020.size := ⟨_, rfl⟩
    rw [← g1033] at A1033 st1033
    have g_b1033 : n0 ≤ b1033 := Nat.le_trans z1029 (Nat.le_of_eq g1033.symm)
    have sz_b1033 : h0.size ≤ b1033 := Nat.le_trans kp1030.1 (Nat.le_of_eq g1033.symm)
    have ne_b3_b1033 : b3 ≠ b1033 := Nat.ne_of_lt (Nat.lt_of_lt_of_le fa1023.lt (Nat.le_of_eq g1033.symm))
    have ne_b30_b1033 : b30 ≠ b1033 := Nat.ne_of_lt (Nat.lt_of_lt_of_le fa1024.lt (Nat.le_of_eq g1033.symm))
    have ne_b611_b1033 : b611 ≠ b1033 := Nat.ne_of_lt (Nat.lt_of_lt_of_le fa1025.lt (Nat.le_of_eq g1033.symm))
    have ne_ta657_b1033 : ta657 ≠ b1033 := Nat.ne_of_lt (Nat.lt_of_lt_of_le fa1026.lt (Nat.le_of_eq g1033.symm))
    have ne_b1020_b1033 : b1020 ≠ b1033 := Nat.ne_of_lt (Nat.lt_of_lt_of_le A1020.lt (Nat.le_of_eq g1033.symm))
    have ch1034 : CHv Z own_EL s.vm h1033 := ch1021.ext E1033
    have cr1034 : CHr Z own_EL s.vm h0 s.vm h1033 := cr1021.trans (CHr.ext E1033 ch1021)
    have sf1034_b1020 : Safe Z own_EL s.vm h1033 b1020 := Safe.ext E1033 ch1021 sf1021_b1020
    have sf1034_b1033 : Safe Z own_EL s.vm h1033 b1033 := Safe.ext E1033 ch1021 (Safe.new (Nat.le_of_eq g1033.symm))
    have fa1035 := fa1022.ext E1033
    have fa1036 := fa1023.ext E1033
    have fa1037 := fa1024.ext E1033
    have fa1038 := fa1025.ext E1033
    have fa1039 := fa1026.ext E1033
    have fa1040 := fa1027.ext E1033
    have fa1041 := fa1028.ext E1033
    have fa1042 := A1020.ext E1033
    have fa1043 := fa1031.ext E1033
    have fa1044 := fa1032.ext E1033
    have z1045 : n0 ≤ h1033.size := Nat.le_trans z1029 E1033.1
    have hk := Nat.le_trans hk E1033.1
    have kp1046 : Keep h0 h1033 [] := kp1030.ext E1033
    have fa1047 : Arv Z h1033 b1033 k1033 .char (3 : Int32) [(.int (0 : Int32)), (.int (0 : Int32)), (.int (0 : Int32))] (.int (0 : Int32)) := (Arv.new A1033 (by decide)).pad (pad_rep [] (.int (0 : Int32)) 3)
    obtain ⟨cl1048, Ar1048, q1048, S1048, M1048, H1048, G1048⟩ := id fa1047
    have hin1048 : ¬ ((0 : Int32) < 0 ∨ cl1048.slots.size ≤ ((0 : Int32)).toNatClampNeg) := inb_of S1048 ⟨by decide, by decide⟩
    obtain ⟨T1049, h1049, X1049, e1049, W1049, st1049⟩ := stC X1033 hx hZ e1033 Ar1048 (j := (0 : Int32)) hin1048 (g := (mkF m 283 #[iv p0, iv p1, iv c0, iv c1, iv c2, iv 2, iv d0, iv d1, iv d2, iv 3, rv b3, rv b30, rv b611, .unset, .unset, .unset] [(.int d0), (.int (0 : Int32)), (.ref b1033), (.ref b1033), (.ref b1020), (.ref b1020)])) rfl rfl (hb hby at_283)
    have ch1050 : CHv Z own_EL s.vm h1049 := ch1034.wr W1049 sf1034_b1033
    have cr1050 : CHr Z own_EL s.vm h0 s.vm h1049 := cr1034.trans (CHr.wr W1049 sf1034_b1033 ch1034)
    have sf1050_b1020 : Safe Z own_EL s.vm h1049 b1020 := Safe.wr W1049 sf1034_b1033 ch1034 sf1034_b1020
    have sf1050_b1033 : Safe Z own_EL s.vm h1049 b1033 := Safe.wr W1049 sf1034_b1033 ch1034 sf1034_b1033
    have fa1051 := fa1035.wr W1049 g_b1033
    have fa1052 := fa1036.other W1049 ne_b3_b1033
    have fa1053 := fa1037.other W1049 ne_b30_b1033
    have fa1054 := fa1038.wr W1049
    have fa1055 := fa1039.other W1049 ne_ta657_b1033
    have fa1056 := fa1040.other W1049 (Or.inl ne_b611_b1033)
    have fa1057 := fa1041.other W1049 (Or.inl ne_b611_b1033)
    have fa1058 := fa1042.wr W1049
    have fa1059 := fa1043.other W1049 (Or.inl ne_b1020_b1033)
    have fa1060 := fa1044.other W1049 (Or.inl ne_b1020_b1033)
    have z1061 : n0 ≤ h1049.size := Nat.le_trans z1045 (Nat.le_of_eq W1049.size.symm)
    have hk := Nat.le_trans hk (Nat.le_of_eq W1049.size.symm)
    have kp1062 : Keep h0 h1049 [] := kp1046.wr W1049 (Or.inr sz_b1033)
    have fa1063 : Arv Z h1049 b1033 k1033 .char (3 : Int32) [(.int (nar .char d0)), (.int (0 : Int32)), (.int (0 : Int32))] (.int (0 : Int32)) := Arv.set Ar1048 q1048 S1048 M1048 H1048 G1048 (fits_nar_char _) W1049 0 rfl (Nat.le_of_ble_eq_true rfl)
    have N1049 := Fr.snoc X1049 N657 g_b1033
    obtain ⟨cl1064, Ar1064, q1064, S1064, M1064, H1064, G1064⟩ := id fa1063
    have hin1064 : ¬ ((1 : Int32) < 0 ∨ cl1064.slots.size ≤ ((1 : Int32)).toNatClampNeg) := inb_of S1064 ⟨by decide, by decide⟩
    obtain ⟨T1065, h1065, X1065, e1065, W1065, st1065⟩ := stC X1049 hx hZ e1049 Ar1064 (j := (1 : Int32)) hin1064 (g := (mkF m 288 #[iv p0, iv p1, iv c0, iv c1, iv c2, iv 2, iv d0, iv d1, iv d2, iv 3, rv b3, rv b30, rv b611, .unset, .unset, .unset] [(.int d1), (.int (1 : Int32)), (.ref b1033), (.ref b1033), (.ref b1020), (.ref b1020)])) rfl rfl (hb hby at_288)
    have ch1066 : CHv Z own_EL s.vm h1065 := ch1050.wr W1065 sf1050_b1033
    have cr1066 : CHr Z own_EL s.vm h0 s.vm h1065 := cr1050.trans (CHr.wr W1065 sf1050_b1033 ch1050)
    have sf1066_b1020 : Safe Z own_EL s.vm h1065 b1020 := Safe.wr W1065 sf1050_b1033 ch1050 sf1050_b1020
    have sf1066_b1033 : Safe Z own_EL s.vm h1065 b1033 := Safe.wr W1065 sf1050_b1033 ch1050 sf1050_b1033
    have fa1067 := fa1051.wr W1065 g_b1033
    have fa1068 := fa1052.other W1065 ne_b3_b1033
    have fa1069 := fa1053.other W1065 ne_b30_b1033
    have fa1070 := fa1054.wr W1065
    have fa1071 := fa1055.other W1065 ne_ta657_b1033
    have fa1072 := fa1056.other W1065 (Or.inl ne_b611_b1033)
    have fa1073 := fa1057.other W1065 (Or.inl ne_b611_b1033)
    have fa1074 := fa1058.wr W1065
    have fa1075 := fa1059.other W1065 (Or.inl ne_b1020_b1033)
    have fa1076 := fa1060.other W1065 (Or.inl ne_b1020_b1033)
    have z1077 : n0 ≤ h1065.size := Nat.le_trans z1061 (Nat.le_of_eq W1065.size.symm)
    have hk := Nat.le_trans hk (Nat.le_of_eq W1065.size.symm)
    have kp1078 : Keep h0 h1065 [] := kp1062.wr W1065 (Or.inr sz_b1033)
    have fa1079 : Arv Z h1065 b1033 k1033 .char (3 : Int32) [(.int (nar .char d0)), (.int (nar .char d1)), (.int (0 : Int32))] (.int (0 : Int32)) := Arv.set Ar1064 q1064 S1064 M1064 H1064 G1064 (fits_nar_char _) W1065 1 rfl (Nat.le_of_ble_eq_true rfl)
    have N1065 := Fr.snoc X1065 N1049 g_b1033
    obtain ⟨cl1080, Ar1080, q1080, S1080, M1080, H1080, G1080⟩ := id fa1079
    have hin1080 : ¬ ((2 : Int32) < 0 ∨ cl1080.slots.size ≤ ((2 : Int32)).toNatClampNeg) := inb_of S1080 ⟨by decide, by decide⟩
    obtain ⟨T1081, h1081, X1081, e1081, W1081, st1081⟩ := stC X1065 hx hZ e1065 Ar1080 (j := (2 : Int32)) hin1080 (g := (mkF m 293 #[iv p0, iv p1, iv c0, iv c1, iv c2, iv 2, iv d0, iv d1, iv d2, iv 3, rv b3, rv b30, rv b611, .unset, .unset, .unset] [(.int d2), (.int (2 : Int32)), (.ref b1033), (.ref b1033), (.ref b1020), (.ref b1020)])) rfl rfl (hb hby at_293)
    have ch1082 : CHv Z own_EL s.vm h1081 := ch1066.wr W1081 sf1066_b1033
    have cr1082 : CHr Z own_EL s.vm h0 s.vm h1081 := cr1066.trans (CHr.wr W1081 sf1066_b1033 ch1066)
    have sf1082_b1020 : Safe Z own_EL s.vm h1081 b1020 := Safe.wr W1081 sf1066_b1033 ch1066 sf1066_b1020
    have sf1082_b1033 : Safe Z own_EL s.vm h1081 b1033 := Safe.wr W1081 sf1066_b1033 ch1066 sf1066_b1033
    have fa1083 := fa1067.wr W1081 g_b1033
    have fa1084 := fa1068.other W1081 ne_b3_b1033
    have fa1085 := fa1069.other W1081 ne_b30_b1033
    have fa1086 := fa1070.wr W1081
    have fa1087 := fa1071.other W1081 ne_ta657_b1033
    have fa1088 := fa1072.other W1081 (Or.inl ne_b611_b1033)
    have fa1089 := fa1073.other W1081 (Or.inl ne_b611_b1033)
    have fa1090 := fa1074.wr W1081
    have fa1091 := fa1075.other W1081 (Or.inl ne_b1020_b1033)
    have fa1092 := fa1076.other W1081 (Or.inl ne_b1020_b1033)
    have z1093 : n0 ≤ h1081.size := Nat.le_trans z1077 (Nat.le_of_eq W1081.size.symm)
    have hk := Nat.le_trans hk (Nat.le_of_eq W1081.size.symm)
    have kp1094 : Keep h0 h1081 [] := kp1078.wr W1081 (Or.inr sz_b1033)
    have fa1095 : Arv Z h1081 b1033 k1033 .char (3 : Int32) [(.int (nar .char d0)), (.int (nar .char d1)), (.int (nar .char d2))] (.int (0 : Int32)) := Arv.set Ar1080 q1080 S1080 M1080 H1080 G1080 (fits_nar_char _) W1081 2 rfl (Nat.le_of_ble_eq_true rfl)
    have N1081 := Fr.snoc X1081 N1065 g_b1033
    have fa1096 : Arv Z h1081 b1033 k1033 .char (3 : Int32) [(.int d0), (.int d1), (.int d2)] (.int (0 : Int32)) := by have q := fa1095; rw [own_narc d0 hb_d0, own_narc d1 hb_d1, own_narc d2 hb_d2] at q; exact q
    have G1097 : ∀ t, Steps p.tables e below (T1081.setTop (mkF m 294 #[iv p0, iv p1, iv c0, iv c1, iv c2, iv 2, iv d0, iv d1, iv d2, iv 3, rv b3, rv b30, rv b611, .unset, .unset, .unset] [(.ref b1033), (.ref b1020), (.ref b1020)])) t → Steps p.tables e below (s₁.setTop (entryFrame m #[(.int p0), (.int p1)] maxLocals)) t := by
     intro t kt
     refine G1019 _ ?_
     refine XS.icmpYes X657.here hx rfl (pc0 := 244) (pc' := 272) rfl (hb hby at_244) rfl (feq (by decide)).2 (by decide) (by decide) ?_
     refine st1020 _ ?_
     refine XS.dup X1020.here hx rfl (hb hby at_275) rfl rfl ?_
     refine XS.iconst X1020.here hx rfl (hb hby at_276) ?_
     refine st1033 _ ?_
     refine XS.dup X1033.here hx rfl (hb hby at_279) rfl rfl ?_
     refine XS.iconst X1033.here hx rfl (hb hby at_280) ?_
     refine XS.iload X1033.here hx rfl (hb hby at_281) rfl ?_
     refine st1049 _ ?_
     refine XS.dup X1049.here hx rfl (hb hby at_284) rfl rfl ?_
     refine XS.iconst X1049.here hx rfl (hb hby at_285) ?_
     refine XS.iload X1049.here hx rfl (hb hby at_286) rfl ?_
     show Steps p.tables e below (T1049.setTop (mkF m 288 #[iv p0, iv p1, iv c0, iv c1, iv c2, iv 2, iv d0, iv d1, iv d2, iv 3, rv b3, rv b30, rv b611, .unset, .unset, .unset] [(.int d1), (.int (1 : Int32)), (.ref b1033), (.ref b1033), (.ref b1020), (.ref b1020)])) _
     refine st1065 _ ?_
     refine XS.dup X1065.here hx rfl (hb hby at_289) rfl rfl ?_
     refine XS.iconst X1065.here hx rfl (hb hby at_290) ?_
     refine XS.iload X1065.here hx rfl (hb hby at_291) rfl ?_
     refine st1081 _ ?_
     exact kt
    obtain ⟨_, _, ⟨T1098, L1098, k1098, n1098⟩, -, X1098, ⟨Lc1098, hQ1098, l1098, y1098, z1098⟩, st1098⟩ := X1081.specialBack hx (y := (⟨"java/lang/String", "<init>", "([C)V"⟩ : MethodName)) rfl hown (mvT hZ (hq hw 4 rfl)) (mvT hZ (hq hw 5 rfl)) (mvT hZ (hq hw 6 rfl)) (by decide) (backOf (W := 1) (rmSF_3 l Z a0 hw [] b1020 b1033 d0 d1 d2 k1033 cst fv h1081 n0 z1093 fa1090 fa1092 fa1091 fa1096 fa1083 g_b1020 ne_b1020_b1033 hb_d0 hb_d1 hb_d2 hp_d0 hp_d1 hp_d2 SS) hZ (hq hw 6 rfl) (hq hw 3 rfl) (by decide) (by decide)) (g := (mkF m 294 #[iv p0, iv p1, iv c0, iv c1, iv c2, iv 2, iv d0, iv d1, iv d2, iv 3, rv b3, rv b30, rv b611, .unset, .unset, .unset] [(.ref b1033), (.ref b1020), (.ref b1020)])) rfl (by rw [hml]; rfl) (Steps.refl _) (a := b1020) (argsL := [(.ref b1033)]) (rest := [(.ref b1020)]) (lenOf pd_26 rfl) rfl (by show 2 * 0 + _ ≤ _; exact Nat.le_of_eq rfl) (hb hby at_294) (fun _ _ => ⟨rfl, e1081, (by decide : 7 + 1 ≤ _), (by decide : 21 + 3 ≤ _)⟩)
    dsimp only [Pt.U, Pt.locs, Pt.cells, Pt.slots] at X1098 l1098 y1098 z1098 st1098 hQ1098
    subst l1098 y1098 z1098
    rcases hQ1098 with ⟨rfl, N1098q, K1098, A1098, hq1098, Fc1098, ta1098, kb1098, Fv1098, sz1098, g_ta1098, V1098⟩
    ·skip
     have N1098 := Fr.app N1081 N1098q
     have szk1098 : h0.size ≤ ta1098 := Nat.le_trans kp1094.1 sz1098
     have ne_b3_ta1098 : b3 ≠ ta1098 := Nat.ne_of_lt (Nat.lt_of_lt_of_le fa1084.lt sz1098)
     have ne_b30_ta1098 : b30 ≠ ta1098 := Nat.ne_of_lt (Nat.lt_of_lt_of_le fa1085.lt sz1098)
     have ne_b611_ta1098 : b611 ≠ ta1098 := Nat.ne_of_lt (Nat.lt_of_lt_of_le fa1086.lt sz1098)
     have ne_ta657_ta1098 : ta657 ≠ ta1098 := Nat.ne_of_lt (Nat.lt_of_lt_of_le fa1087.lt sz1098)
     have ne_b1020_ta1098 : b1020 ≠ ta1098 := Nat.ne_of_lt (Nat.lt_of_lt_of_le fa1090.lt sz1098)
     have ne_b1033_ta1098 : b1033 ≠ ta1098 := Nat.ne_of_lt (Nat.lt_of_lt_of_le fa1096.lt sz1098)
     have ch1099 : CHv Z own_EL s.vm T1098.heap := ch1082.keep K1098 (allS sf1082_b1020 all0)
     have cr1099 : CHr Z own_EL s.vm h0 s.vm T1098.heap := cr1082.trans (CHr.keep K1098 (allS sf1082_b1020 all0) ch1082)
     have sf1099_b1020 : Safe Z own_EL s.vm T1098.heap b1020 := Safe.keep K1098 (allS sf1082_b1020 all0) ch1082 sf1082_b1020
     have sf1099_b1033 : Safe Z own_EL s.vm T1098.heap b1033 := Safe.keep K1098 (allS sf1082_b1020 all0) ch1082 sf1082_b1033
     have fa1100 := fa1083.keep K1098 (allS g_b1020 all0)
     have fa1101 := fa1084.keep K1098 (ninS ne_b3_b1020 nin0)
     have fa1102 := fa1085.keep K1098 (ninS ne_b30_b1020 nin0)
     have fa1103 := fa1086.keep K1098
     have fa1104 := fa1087.keep K1098 (ninS ne_ta657_b1020 nin0)
     have fa1105 := fa1088.keep K1098 (ninS ne_b611_b1020 nin0)
     have fa1106 := fa1089.keep K1098 (ninS ne_b611_b1020 nin0)
     have fa1107 := fa1090.keep K1098
     have fa1108 := fa1096.keep K1098 (ninS (Ne.symm ne_b1020_b1033) nin0)
     have z1109 : n0 ≤ T1098.heap.size := Nat.le_trans z1093 K1098.1
     have hk := Nat.le_trans hk K1098.1
     have kp1110 : Keep h0 T1098.heap [] := kp1094.trans K1098 (allS (Or.inr sz_b1020) all0)
     obtain ⟨T1111, h1111, X1111, e1111, E1111, A1111, D1111, -, st1111⟩ := newO X1098 hx hZ hown (hq hw 33 rfl) (hq hw 34 rfl) (hq hw 35 rfl) rfl (g := (mkF m 299 #[iv p0, iv p1, iv c0, iv c1, iv c2, iv 2, iv d0, iv d1, iv d2, iv 3, rv b3, rv b30, rv b611, rv b1020, .unset, .unset] [])) rfl (hb hby at_299) (by decide) (by decide)
     obtain ⟨b1111, g1111⟩ : ∃ z, z = T1098.heap.size := ⟨_, rfl⟩
     rw [← g1111] at A1111 D1111 st1111
     have g_b1111 : n0 ≤ b1111 := Nat.le_trans z1109 (Nat.le_of_eq g1111.symm)
     have sz_b1111 : h0.size ≤ b1111 := Nat.le_trans kp1110.1 (Nat.le_of_eq g1111.symm)
     have ne_b3_b1111 : b3 ≠ b1111 := Nat.ne_of_lt (Nat.lt_of_lt_of_le fa1101.lt (Nat.le_of_eq g1111.symm))
     have ne_b30_b1111 : b30 ≠ b1111 := Nat.ne_of_lt (Nat.lt_of_lt_of_le fa1102.lt (Nat.le_of_eq g1111.symm))
     have ne_b611_b1111 : b611 ≠ b1111 := Nat.ne_of_lt (Nat.lt_of_lt_of_le fa1103.lt (Nat.le_of_eq g1111.symm))
     have ne_ta657_b1111 : ta657 ≠ b1111 := Nat.ne_of_lt (Nat.lt_of_lt_of_le fa1104.lt (Nat.le_of_eq g1111.symm))
     have ne_b1020_b1111 : b1020 ≠ b1111 := Nat.ne_of_lt (Nat.lt_of_lt_of_le A1098.lt (Nat.le_of_eq g1111.symm))
     have ne_ta1098_b1111 : ta1098 ≠ b1111 := Nat.ne_of_lt (Nat.lt_of_lt_of_le V1098.lt (Nat.le_of_eq g1111.symm))
     have ch1112 : CHv Z own_EL s.vm h1111 := ch1099.ext E1111
     have cr1112 : CHr Z own_EL s.vm h0 s.vm h1111 := cr1099.trans (CHr.ext E1111 ch1099)
     have sf1112_b1111 : Safe Z own_EL s.vm h1111 b1111 := Safe.ext E1111 ch1099 (Safe.new (Nat.le_of_eq g1111.symm))
     have fa1113 := fa1100.ext E1111
     have fa1114 := fa1101.ext E1111
     have fa1115 := fa1102.ext E1111
     have fa1116 := fa1103.ext E1111
     have fa1117 := fa1104.ext E1111
     have fa1118 := fa1105.ext E1111
     have fa1119 := fa1106.ext E1111
     have fa1120 := A1098.ext E1111
     have fa1121 := V1098.ext E1111
     have fa1122 := Fc1098.ext E1111
     have fa1123 := Fv1098.ext E1111
     have z1124 : n0 ≤ h1111.size := Nat.le_trans z1109 E1111.1
     have hk := Nat.le_trans hk E1111.1
     have kp1125 : Keep h0 h1111 [] := kp1110.ext E1111
     have fa1126 : Fld Z h1111 b1111 "com/example/fides/fides/RecordId" "table" "Ljava/lang/String;" .null := D1111 (Or.inr (hq hw 57 rfl)) (ty := (.object "java/lang/String")) (by decide)
     have fa1127 : Fld Z h1111 b1111 "com/example/fides/fides/RecordId" "key" "Ljava/lang/String;" .null := D1111 (Or.inr (hq hw 59 rfl)) (ty := (.object "java/lang/String")) (by decide)
     have G1128 : ∀ t, Steps p.tables e below (T1111.setTop (mkF m 307 #[iv p0, iv p1, iv c0, iv c1, iv c2, iv 2, iv d0, iv d1, iv d2, iv 3, rv b3, rv b30, rv b611, rv b1020, .unset, .unset] [(.ref b1020), (.ref b611), (.ref b1111), (.ref b1111)])) t → Steps p.tables e below (s₁.setTop (entryFrame m #[(.int p0), (.int p1)] maxLocals)) t := by
      intro t kt
      refine G1097 _ ?_
      refine st1098.trans ?_
      refine XS.astore X1098.here hx rfl (hb hby at_297) rfl rfl (l' := #[iv p0, iv p1, iv c0, iv c1, iv c2, iv 2, iv d0, iv d1, iv d2, iv 3, rv b3, rv b30, rv b611, rv b1020, .unset, .unset]) rfl ?_
      refine st1111 _ ?_
      refine XS.dup X1111.here hx rfl (hb hby at_302) rfl rfl ?_
      refine XS.aload X1111.here hx rfl (hb hby at_303) rfl rfl ?_
      refine XS.aload X1111.here hx rfl (hb hby at_305) rfl rfl ?_
      exact kt
     obtain ⟨_, vm1129, ⟨T1129, L1129, k1129, n1129⟩, -, X1129, hS1129, gr1129, ⟨Lc1129, hQ1129, l1129, y1129, z1129, C1129⟩, st1129⟩ := X1111.specialBackS hx (y := (⟨"com/example/fides/fides/RecordId", "<init>", "(Ljava/lang/String;Ljava/lang/String;)V"⟩ : MethodName)) rfl hown (mvT hZ (hq hw 36 rfl)) (mvT hZ (hq hw 37 rfl)) (mvT hZ (hq hw 38 rfl)) (by decide) (backOfSH (s := s) (vm0 := s.vm) (W := 1) (rm7 l Z a0 hw [] b1111 b611 b1020 ta657 kb657 (2 : Int32) [(.int (nar .byte (c0.toInt8.toInt32))), (.int (nar .byte (c1.toInt8.toInt32)))] h1111 n0 z1124 A1111 fa1126 fa1127 fa1116 fa1119 fa1117 g_b1111 (Ne.symm ne_b611_b1111) (Ne.symm ne_ta657_b1111) (by decide)) hZ (hq hw 38 rfl) (hq hw 35 rfl) (by decide) (by decide) hEL ch1112) (g := (mkF m 307 #[iv p0, iv p1, iv c0, iv c1, iv c2, iv 2, iv d0, iv d1, iv d2, iv 3, rv b3, rv b30, rv b611, rv b1020, .unset, .unset] [(.ref b1020), (.ref b611), (.ref b1111), (.ref b1111)])) rfl (by rw [hml]; rfl) (Steps.refl _) (a := b1111) (argsL := [(.ref b611), (.ref b1020)]) (rest := [(.ref b1111)]) (lenOf pd_27 rfl) rfl (by show 2 * 0 + _ ≤ _; exact Nat.le_of_eq rfl) (hb hby at_307) (fun _ _ => ⟨rfl, e1111, (by decide : 9 + 4 ≤ _), (by decide : 26 + 40 ≤ _)⟩)
     dsimp only [Pt.U, Pt.locs, Pt.cells, Pt.slots] at X1129 l1129 y1129 z1129 st1129 hQ1129 hS1129 gr1129 C1129
     subst l1129 y1129 z1129
     have hS := hS.trans hS1129 (Nat.le_trans hk (by rw [← show T1111.heap = h1111 from e1111]; exact gr1129))
     have hZ : Z.Warmed39 (s.setVm T1129.vm).vm := State.Warmed39.trans hZ hS1129.1
     have hown : (s.setVm T1129.vm).vm.findClass "com/example/fides/fides/RecordIdToStringPinLaw" = some m.cls := by rw [show (s.setVm T1129.vm).vm = T1129.vm from rfl, hS1129.1.alike.findClass]; exact hown
     have X1129 : Stand p l e room_1 (s.setVm T1129.vm) m #[(.int p0), (.int p1)] below meth c T1129 _ _ _ := X1129
     have hk : T1129.heap.size ≤ T1129.heap.size := Nat.le_refl _
     have cr1130 := cr1112.trans C1129
     have ch1130 := C1129.1
     have sf1130_b1111 := C1129.safe A1111.lt sf1112_b1111
     obtain ⟨rfl, N1129q, K1129, Ft1129, Fk1129⟩ := hQ1129
     have N1129 := Fr.app N1098 N1129q
     have fa1131 := fa1113.keep K1129 (allS g_b1111 all0)
     have fa1132 := fa1114.keep K1129 (ninS ne_b3_b1111 nin0)
     have fa1133 := fa1115.keep K1129 (ninS ne_b30_b1111 nin0)
     have fa1134 := fa1116.keep K1129
     have fa1135 := fa1117.keep K1129 (ninS ne_ta657_b1111 nin0)
     have fa1136 := fa1118.keep K1129 (ninS ne_b611_b1111 nin0)
     have fa1137 := fa1119.keep K1129 (ninS ne_b611_b1111 nin0)
     have fa1138 := fa1120.keep K1129
     have fa1139 := fa1121.keep K1129 (ninS ne_ta1098_b1111 nin0)
     have fa1140 := fa1122.keep K1129 (ninS ne_b1020_b1111 nin0)
     have fa1141 := fa1123.keep K1129 (ninS ne_b1020_b1111 nin0)
     have fa1142 := A1111.keep K1129
     have z1143 : n0 ≤ T1129.heap.size := Nat.le_trans z1124 K1129.1
     have kp1144 : Keep h0 T1129.heap [] := kp1125.trans K1129 (allS (Or.inr sz_b1111) all0)
     have G1145 : ∀ t, Steps p.tables e below (T1129.setTop (mkF m 310 #[iv p0, iv p1, iv c0, iv c1, iv c2, iv 2, iv d0, iv d1, iv d2, iv 3, rv b3, rv b30, rv b611, rv b1020, .unset, .unset] [(.ref b1111)])) t → Steps p.tables e below (s₁.setTop (entryFrame m #[(.int p0), (.int p1)] maxLocals)) t := by
      intro t kt
      refine G1128 _ ?_
      refine st1129.trans ?_
      exact kt
     obtain ⟨cq1146, kq1146, q1146a, q1146b, q1146c⟩ := isOf hZ rfl fa1142
     obtain ⟨_, vm1146, ⟨T1146, L1146, k1146, n1146⟩, -, X1146, hS1146, gr1146, ⟨Lc1146, hQ1146, l1146, y1146, z1146, C1146⟩, st1146⟩ := X1129.virtualBackS hx (y := (⟨"com/example/fides/fides/RecordId", "toString", "()Ljava/lang/String;"⟩ : MethodName)) (z := (⟨"com/example/fides/fides/RecordId", "toString", "()Ljava/lang/String;"⟩ : MethodName)) hown (mvT hZ (hq hw 60 rfl)) (mvT hZ (hq hw 61 rfl)) (notFace_of_selects (args := #[]) (mvT hZ (hq hw 63 rfl))) (mvT hZ (hq hw 63 rfl)) (mvT hZ (hq hw 62 rfl)) (by decide) (backOfSH (s := s) (vm0 := T1129.vm) (W := 0) (rm11 l Z a0 hw [] b1111 b611 ta657 kb657 (2 : Int32) [(.int (nar .byte (c0.toInt8.toInt32))), (.int (nar .byte (c1.toInt8.toInt32)))] b1020 ta1098 kb1098 (3 : Int32) [(.int (nar .byte (d0.toInt8.toInt32))), (.int (nar .byte (d1.toInt8.toInt32))), (.int (nar .byte (d2.toInt8.toInt32)))] (6 : Int32) [(.int (nar .byte (c0.toInt8.toInt32))), (.int (nar .byte (c1.toInt8.toInt32))), (.int (47 : Int32)), (.int (nar .byte (d0.toInt8.toInt32))), (.int (nar .byte (d1.toInt8.toInt32))), (.int (nar .byte (d2.toInt8.toInt32)))] cst fv T1129.heap n0 z1143 Ft1129 Fk1129 fa1134 fa1136 fa1137 fa1135 fa1138 fa1140 fa1141 fa1139 fa1131 (by decide) (own_mkok (by decide) (by decide) (by decide) (by decide) (Nat.le_of_ble_eq_true rfl)) (by decide) (own_mkok (by decide) (by decide) (by decide) (by decide) (Nat.le_of_ble_eq_true rfl)) (by decide) (own_mkok (by decide) (by decide) (by decide) (by decide) (Nat.le_of_ble_eq_true rfl)) (own_cr6) (by decide) rfl SS) hZ (hq hw 64 rfl) (hq hw 35 rfl) (by decide) (by decide) hEL ch1130) q1146a q1146c (g := (mkF m 310 #[iv p0, iv p1, iv c0, iv c1, iv c2, iv 2, iv d0, iv d1, iv d2, iv 3, rv b3, rv b30, rv b611, rv b1020, .unset, .unset] [(.ref b1111)])) rfl (by rw [hml]; rfl) (Steps.refl _) (argsL := []) (rest := []) (lenOf pd_23 rfl) rfl (by show 2 * 0 + _ ≤ _; exact Nat.le_of_eq rfl) (hb hby at_310) (fun _ _ => ⟨rfl, rfl, (by decide : 13 + 6 ≤ _), (by decide : 66 + 40 ≤ _)⟩)
     dsimp only [Pt.U, Pt.locs, Pt.cells, Pt.slots] at X1146 l1146 y1146 z1146 st1146 hQ1146 hS1146 gr1146 C1146
     subst l1146 y1146 z1146
     have hS := hS.trans hS1146 (Nat.le_trans hk (by rw [← show T1129.heap = T1129.heap from rfl]; exact gr1146))
     have hZ : Z.Warmed39 (s.setVm T1146.vm).vm := State.Warmed39.trans hZ hS1146.1
     have hown : (s.setVm T1146.vm).vm.findClass "com/example/fides/fides/RecordIdToStringPinLaw" = some m.cls := by rw [show (s.setVm T1146.vm).vm = T1146.vm from rfl, hS1146.1.alike.findClass]; exact hown
     have X1146 : Stand p l e room_1 (s.setVm T1146.vm) m #[(.int p0), (.int p1)] below meth c T1146 _ _ _ := X1146
     have hk : T1146.heap.size ≤ T1146.heap.size := Nat.le_refl _
     have cr1147 := cr1130.trans C1146
     have ch1147 := C1146.1
     have sf1147_b1111 := C1146.safe fa1142.lt sf1130_b1111
     obtain ⟨s1146, t1146, kb1146, rfl, N1146q, K1146, A1146, Fc1146, Fv1146, V1146⟩ := hQ1146
     have N1146 := Fr.app N1129 N1146q
     have fa1148 := fa1131.keep K1146 all0
     have fa1149 := fa1132.keep K1146 nin0
     have fa1150 := fa1133.keep K1146 nin0
     have fa1151 := fa1134.keep K1146
     have fa1152 := fa1135.keep K1146 nin0
     have fa1153 := fa1136.keep K1146 nin0
     have fa1154 := fa1137.keep K1146 nin0
     have fa1155 := fa1138.keep K1146
     have fa1156 := fa1139.keep K1146 nin0
     have fa1157 := fa1140.keep K1146 nin0
     have fa1158 := fa1141.keep K1146 nin0
     have fa1159 := fa1142.keep K1146
     have fa1160 := Ft1129.keep K1146 nin0
     have fa1161 := Fk1129.keep K1146 nin0
     have z1162 : n0 ≤ T1146.heap.size := Nat.le_trans z1143 K1146.1
     have kp1163 : Keep h0 T1146.heap [] := kp1144.trans K1146 all0
     have G1164 : ∀ t, Steps p.tables e below (T1146.setTop (mkF m 324 #[iv p0, iv p1, iv c0, iv c1, iv c2, iv 2, iv d0, iv d1, iv d2, iv 3, rv b3, rv b30, rv b611, rv b1020, rv s1146, iv 6] [])) t → Steps p.tables e below (s₁.setTop (entryFrame m #[(.int p0), (.int p1)] maxLocals)) t := by
      intro t kt
      refine G1145 _ ?_
      refine st1146.trans ?_
      refine XS.astore X1146.here hx rfl (hb hby at_313) rfl rfl (l' := #[iv p0, iv p1, iv c0, iv c1, iv c2, iv 2, iv d0, iv d1, iv d2, iv 3, rv b3, rv b30, rv b611, rv b1020, rv s1146, .unset]) rfl ?_
      refine XS.iload X1146.here hx rfl (hb hby at_315) rfl ?_
      refine XS.iconst X1146.here hx rfl (hb hby at_317) ?_
      refine XS.iadd X1146.here hx rfl (hb hby at_318) rfl ?_
      refine XS.iload X1146.here hx rfl (hb hby at_319) rfl ?_
      refine XS.iadd X1146.here hx rfl (hb hby at_321) rfl ?_
      refine XS.istore X1146.here hx rfl (hb hby at_322) rfl (l' := #[iv p0, iv p1, iv c0, iv c1, iv c2, iv 2, iv d0, iv d1, iv d2, iv 3, rv b3, rv b30, rv b611, rv b1020, rv s1146, iv 6]) rfl ?_
      exact kt
     obtain ⟨T1165, L1165, X1165, e1165, N1165, K1165⟩ := own_tail (l := l) (Z := Z) (a0 := a0) (iv p0) (iv p1) (iv c0) (iv c1) (iv c2) (iv d0) (iv d1) (iv d2) (iv 3) (rv b611) (rv b1020) (2 : Int32) (6 : Int32) b3 b30 s1146 t1146 kb1146 (6 : Int32) [(.int (nar .byte (c0.toInt8.toInt32))), (.int (nar .byte (c1.toInt8.toInt32))), (.int (47 : Int32)), (.int (nar .byte (d0.toInt8.toInt32))), (.int (nar .byte (d1.toInt8.toInt32))), (.int (nar .byte (d2.toInt8.toInt32)))] k3 (3 : Int32) [(.int c0), (.int c1), (.int c2)] k30 (3 : Int32) [(.int d0), (.int d1), (.int d2)] cst fv X1146 hx hZ hw hby hml hown rfl N1146 z1162 A1146 Fc1146 Fv1146 V1146 fa1149 fa1150 fa1148 (by decide) (by decide) (by decide) (own_atT (xx := (nar .byte (c0.toInt8.toInt32))) (cc := c0) (by decide) (by decide) (by decide) rfl (own_lat c0 hb_c0 hp_c0) (by decide) rfl (by decide)) (own_atT (xx := (nar .byte (c1.toInt8.toInt32))) (cc := c1) (by decide) (by decide) (by decide) rfl (own_lat c1 hb_c1 hp_c1) (by decide) rfl (by decide)) (own_atM (xx := (47 : Int32)) (by decide) (by decide) (by decide) rfl (by decide) (by decide) (by decide)) (own_atK (xx := (nar .byte (d0.toInt8.toInt32))) (cc := d0) (by decide) (by decide) (by decide) rfl (own_lat d0 hb_d0 hp_d0) (by decide) rfl (by decide) (by decide)) (own_atK (xx := (nar .byte (d1.toInt8.toInt32))) (cc := d1) (by decide) (by decide) (by decide) rfl (own_lat d1 hb_d1 hp_d1) (by decide) rfl (by decide) (by decide)) (own_atK (xx := (nar .byte (d2.toInt8.toInt32))) (cc := d2) (by decide) (by decide) (by decide) rfl (own_lat d2 hb_d2 hp_d2) (by decide) rfl (by decide) (by decide)) (own_atD (by decide)) SS
     have G1166 : ∀ t, Steps p.tables e below (T1165.setTop (mkF m 461 #[iv p0, iv p1, iv c0, iv c1, iv c2, iv 2, iv d0, iv d1, iv d2, iv 3, rv b3, rv b30, rv b611, rv b1020, rv s1146, iv 6] [])) t → Steps p.tables e below (s₁.setTop (entryFrame m #[(.int p0), (.int p1)] maxLocals)) t := fun t kt => G1164 t (K1165 t kt)
     obtain ⟨fs, hr, hrun, hended, hRW⟩ := X1165.leaveW (s := s) hS (by rw [show T1165.heap = T1146.heap from e1165]; exact hk) (v := some (.int (1 : Int32))) (fun h => by rw [Bd.returns] at h; cases h) (BodyLoose.notSynchronized Bd)
     refine ⟨_, _, G1166 _ ?_, hrun, hended, _, _, rfl, ?_, hRW.1, hRW.2.1, hRW.2.2.1, hRW.2.2.2.mono (by decide) (by decide)⟩
     ·skip
      show Steps p.tables e below (T1165.setTop (mkF m 461 #[iv p0, iv p1, iv c0, iv c1, iv c2, iv 2, iv d0, iv d1, iv d2, iv 3, rv b3, rv b30, rv b611, rv b1020, rv s1146, iv 6] [])) _
      refine XS.iconst X1165.here hx rfl (hb hby at_461) ?_
      refine XS.goto X1165.here hx rfl (pc0 := 462) (pc' := 466) rfl (hb hby at_462) (by decide) (by decide) ?_
      exact retN X1165 hx (t := .boolean) Bd.returns (by simp) (hb hby at_466) hr
     ·show Q0 Z p0 p1 cst fv h0 n0 _ T1165.heap _
      rw [e1165]
      exact ⟨rfl, N1165⟩
 ·skip
  have G1167 : ∀ t, Steps p.tables e below (T54.setTop (mkF m 119 #[iv p0, iv p1, iv c0, iv c1, iv c2, iv 3, iv d0, iv d1, iv d2, iv u2, rv b3, rv b30, .unset, .unset, .unset, .unset] [(.int (1 : Int32)), (.int (3 : Int32))])) t → Steps p.tables e below (s₁.setTop (entryFrame m #[(.int p0), (.int p1)] maxLocals)) t := by
   intro t kt
   refine G61 _ ?_
   refine XS.iload X54.here hx rfl (hb hby at_116) rfl ?_
   refine XS.iconst X54.here hx rfl (hb hby at_118) ?_
   exact kt
  have G1168 : ∀ t, Steps p.tables e below (T54.setTop (mkF m 144 #[iv p0, iv p1, iv c0, iv c1, iv c2, iv 3, iv d0, iv d1, iv d2, iv u2, rv b3, rv b30, .unset, .unset, .unset, .unset] [(.int (2 : Int32)), (.int (3 : Int32))])) t → Steps p.tables e below (s₁.setTop (entryFrame m #[(.int p0), (.int p1)] maxLocals)) t := by
   intro t kt
   refine G1167 _ ?_
   refine XS.icmpYes X54.here hx rfl (pc0 := 119) (pc' := 141) rfl (hb hby at_119) rfl (feq (by decide)).2 (by decide) (by decide) ?_
   refine XS.iload X54.here hx rfl (hb hby at_141) rfl ?_
   refine XS.iconst X54.here hx rfl (hb hby at_143) ?_
   exact kt
  obtain ⟨T1169, h1169, X1169, e1169, E1169, A1169, D1169, -, st1169⟩ := newO X54 hx hZ hown (hq hw 1 rfl) (hq hw 2 rfl) (hq hw 3 rfl) e54 (g := (mkF m 170 #[iv p0, iv p1, iv c0, iv c1, iv c2, iv 3, iv d0, iv d1, iv d2, iv u2, rv b3, rv b30, .unset, .unset, .unset, .unset] [])) rfl (hb hby at_170) (by decide) (by decide)
  obtain ⟨b1169, g1169⟩ : ∃ z, z = h54.size := ⟨_, rfl⟩
  rw [← g1169] at A1169 D1169 st1169
  have g_b1169 : n0 ≤ b1169 := Nat.le_trans z58 (Nat.le_of_eq g1169.symm)
  have sz_b1169 : h0.size ≤ b1169 := Nat.le_trans kp59.1 (Nat.le_of_eq g1169.symm)
  have ne_b3_b1169 : b3 ≠ b1169 := Nat.ne_of_lt (Nat.lt_of_lt_of_le fa62.lt (Nat.le_of_eq g1169.symm))
  have ne_b30_b1169 : b30 ≠ b1169 := Nat.ne_of_lt (Nat.lt_of_lt_of_le fa63.lt (Nat.le_of_eq g1169.symm))
  have ch1170 : CHv Z own_EL s.vm h1169 := ch55.ext E1169
  have cr1170 : CHr Z own_EL s.vm h0 s.vm h1169 := cr55.trans (CHr.ext E1169 ch55)
  have sf1170_b1169 : Safe Z own_EL s.vm h1169 b1169 := Safe.ext E1169 ch55 (Safe.new (Nat.le_of_eq g1169.symm))
  have fa1171 := fa56.ext E1169
  have fa1172 := fa62.ext E1169
  have fa1173 := fa63.ext E1169
  have z1174 : n0 ≤ h1169.size := Nat.le_trans z58 E1169.1
  have hk := Nat.le_trans hk E1169.1
  have kp1175 : Keep h0 h1169 [] := kp59.ext E1169
  have fa1176 : Fld Z h1169 b1169 "java/lang/String" "coder" "B" (.int (0 : Int32)) := D1169 (Or.inr (hq hw 27 rfl)) (ty := .byte) (by decide)
  have fa1177 : Fld Z h1169 b1169 "java/lang/String" "value" "[B" .null := D1169 (Or.inr (hq hw 29 rfl)) (ty := (.array .byte)) (by decide)
  obtain ⟨T1178, h1178, k1178, X1178, e1178, E1178, A1178, st1178⟩ := newP X1169 hx hZ (hq hw 0 rfl) e1169 (g := (mkF m 175 #[iv p0, iv p1, iv c0, iv c1, iv c2, iv 3, iv d0, iv d1, iv d2, iv u2, rv b3, rv b30, .unset, .unset, .unset, .unset] [(.int (3 : Int32)), (.ref b1169), (.ref b1169)])) rfl (hb hby at_175) rfl (by decide) (cap := 3) (by decide) (by decide) (by decide) (by decide)
  obtain ⟨b1178, g1178⟩ : ∃ z, z = h1169.size := ⟨_, rfl⟩
  rw [← g1178] at A1178 st1178
  have g_b1178 : n0 ≤ b1178 := Nat.le_trans z1174 (Nat.le_of_eq g1178.symm)
  have sz_b1178 : h0.size ≤ b1178 := Nat.le_trans kp1175.1 (Nat.le_of_eq g1178.symm)
  have ne_b3_b1178 : b3 ≠ b1178 := Nat.ne_of_lt (Nat.lt_of_lt_of_le fa1172.lt (Nat.le_of_eq g1178.symm))
  have ne_b30_b1178 : b30 ≠ b1178 := Nat.ne_of_lt (Nat.lt_of_lt_of_le fa1173.lt (Nat.le_of_eq g1178.symm))
  have ne_b1169_b1178 : b1169 ≠ b1178 := Nat.ne_of_lt (Nat.lt_of_lt_of_le A1169.lt (Nat.le_of_eq g1178.symm))
  have ch1179 : CHv Z own_EL s.vm h1178 := ch1170.ext E1178
  have cr1179 : CHr Z own_EL s.vm h0 s.vm h1178 := cr1170.trans (CHr.ext E1178 ch1170)
  have sf1179_b1169 : Safe Z own_EL s.vm h1178 b1169 := Safe.ext E1178 ch1170 sf1170_b1169
  have sf1179_b1178 : Safe Z own_EL s.vm h1178 b1178 := Safe.ext E1178 ch1170 (Safe.new (Nat.le_of_eq g1178.symm))
  have fa1180 := fa1171.ext E1178
  have fa1181 := fa1172.ext E1178
  have fa1182 := fa1173.ext E1178
  have fa1183 := A1169.ext E1178
  have fa1184 := fa1176.ext E1178
  have fa1185 := fa1177.ext E1178
  have z1186 : n0 ≤ h1178.size := Nat.le_trans z1174 E1178.1
  have hk := Nat.le_trans hk E1178.1
  have kp1187 : Keep h0 h1178 [] := kp1175.ext E1178
  have fa1188 : Arv Z h1178 b1178 k1178 .char (3 : Int32) [(.int (0 : Int32)), (.int (0 : Int32)), (.int (0 : Int32))] (.int (0 : Int32)) := (Arv.new A1178 (by decide)).pad (pad_rep [] (.int (0 : Int32)) 3)
  obtain ⟨cl1189, Ar1189, q1189, S1189, M1189, H1189, G1189⟩ := id fa1188
  have hin1189 : ¬ ((0 : Int32) < 0 ∨ cl1189.slots.size ≤ ((0 : Int32)).toNatClampNeg) := inb_of S1189 ⟨by decide, by decide⟩
  obtain ⟨T1190, h1190, X1190, e1190, W1190, st1190⟩ := stC X1178 hx hZ e1178 Ar1189 (j := (0 : Int32)) hin1189 (g := (mkF m 180 #[iv p0, iv p1, iv c0, iv c1, iv c2, iv 3, iv d0, iv d1, iv d2, iv u2, rv b3, rv b30, .unset, .unset, .unset, .unset] [(.int c0), (.int (0 : Int32)), (.ref b1178), (.ref b1178), (.ref b1169), (.ref b1169)])) rfl rfl (hb hby at_180)
  have ch1191 : CHv Z own_EL s.vm h1190 := ch1179.wr W1190 sf1179_b1178
  have cr1191 : CHr Z own_EL s.vm h0 s.vm h1190 := cr1179.trans (CHr.wr W1190 sf1179_b1178 ch1179)
  have sf1191_b1169 : Safe Z own_EL s.vm h1190 b1169 := Safe.wr W1190 sf1179_b1178 ch1179 sf1179_b1169
  have sf1191_b1178 : Safe Z own_EL s.vm h1190 b1178 := Safe.wr W1190 sf1179_b1178 ch1179 sf1179_b1178
  have fa1192 := fa1180.wr W1190 g_b1178
  have fa1193 := fa1181.other W1190 ne_b3_b1178
  have fa1194 := fa1182.other W1190 ne_b30_b1178
  have fa1195 := fa1183.wr W1190
  have fa1196 := fa1184.other W1190 (Or.inl ne_b1169_b1178)
  have fa1197 := fa1185.other W1190 (Or.inl ne_b1169_b1178)
  have z1198 : n0 ≤ h1190.size := Nat.le_trans z1186 (Nat.le_of_eq W1190.size.symm)
  have hk := Nat.le_trans hk (Nat.le_of_eq W1190.size.symm)
  have kp1199 : Keep h0 h1190 [] := kp1187.wr W1190 (Or.inr sz_b1178)
  have fa1200 : Arv Z h1190 b1178 k1178 .char (3 : Int32) [(.int (nar .char c0)), (.int (0 : Int32)), (.int (0 : Int32))] (.int (0 : Int32)) := Arv.set Ar1189 q1189 S1189 M1189 H1189 G1189 (fits_nar_char _) W1190 0 rfl (Nat.le_of_ble_eq_true rfl)
  have N1190 := Fr.snoc X1190 N54 g_b1178
  obtain ⟨cl1201, Ar1201, q1201, S1201, M1201, H1201, G1201⟩ := id fa1200
  have hin1201 : ¬ ((1 : Int32) < 0 ∨ cl1201.slots.size ≤ ((1 : Int32)).toNatClampNeg) := inb_of S1201 ⟨by decide, by decide⟩
  obtain ⟨T1202, h1202, X1202, e1202, W1202, st1202⟩ := stC X1190 hx hZ e1190 Ar1201 (j := (1 : Int32)) hin1201 (g := (mkF m 184 #[iv p0, iv p1, iv c0, iv c1, iv c2, iv 3, iv d0, iv d1, iv d2, iv u2, rv b3, rv b30, .unset, .unset, .unset, .unset] [(.int c1), (.int (1 : Int32)), (.ref b1178), (.ref b1178), (.ref b1169), (.ref b1169)])) rfl rfl (hb hby at_184)
  have ch1203 : CHv Z own_EL s.vm h1202 := ch1191.wr W1202 sf1191_b1178
  have cr1203 : CHr Z own_EL s.vm h0 s.vm h1202 := cr1191.trans (CHr.wr W1202 sf1191_b1178 ch1191)
  have sf1203_b1169 : Safe Z own_EL s.vm h1202 b1169 := Safe.wr W1202 sf1191_b1178 ch1191 sf1191_b1169
  have sf1203_b1178 : Safe Z own_EL s.vm h1202 b1178 := Safe.wr W1202 sf1191_b1178 ch1191 sf1191_b1178
  have fa1204 := fa1192.wr W1202 g_b1178
  have fa1205 := fa1193.other W1202 ne_b3_b1178
  have fa1206 := fa1194.other W1202 ne_b30_b1178
  have fa1207 := fa1195.wr W1202
  have fa1208 := fa1196.other W1202 (Or.inl ne_b1169_b1178)
  have fa1209 := fa1197.other W1202 (Or.inl ne_b1169_b1178)
  have z1210 : n0 ≤ h1202.size := Nat.le_trans z1198 (Nat.le_of_eq W1202.size.symm)
  have hk := Nat.le_trans hk (Nat.le_of_eq W1202.size.symm)
  have kp1211 : Keep h0 h1202 [] := kp1199.wr W1202 (Or.inr sz_b1178)
  have fa1212 : Arv Z h1202 b1178 k1178 .char (3 : Int32) [(.int (nar .char c0)), (.int (nar .char c1)), (.int (0 : Int32))] (.int (0 : Int32)) := Arv.set Ar1201 q1201 S1201 M1201 H1201 G1201 (fits_nar_char _) W1202 1 rfl (Nat.le_of_ble_eq_true rfl)
  have N1202 := Fr.snoc X1202 N1190 g_b1178
  obtain ⟨cl1213, Ar1213, q1213, S1213, M1213, H1213, G1213⟩ := id fa1212
  have hin1213 : ¬ ((2 : Int32) < 0 ∨ cl1213.slots.size ≤ ((2 : Int32)).toNatClampNeg) := inb_of S1213 ⟨by decide, by decide⟩
  obtain ⟨T1214, h1214, X1214, e1214, W1214, st1214⟩ := stC X1202 hx hZ e1202 Ar1213 (j := (2 : Int32)) hin1213 (g := (mkF m 189 #[iv p0, iv p1, iv c0, iv c1, iv c2, iv 3, iv d0, iv d1, iv d2, iv u2, rv b3, rv b30, .unset, .unset, .unset, .unset] [(.int c2), (.int (2 : Int32)), (.ref b1178), (.ref b1178), (.ref b1169), (.ref b1169)])) rfl rfl (hb hby at_189)
  have ch1215 : CHv Z own_EL s.vm h1214 := ch1203.wr W1214 sf1203_b1178
  have cr1215 : CHr Z own_EL s.vm h0 s.vm h1214 := cr1203.trans (CHr.wr W1214 sf1203_b1178 ch1203)
  have sf1215_b1169 : Safe Z own_EL s.vm h1214 b1169 := Safe.wr W1214 sf1203_b1178 ch1203 sf1203_b1169
  have sf1215_b1178 : Safe Z own_EL s.vm h1214 b1178 := Safe.wr W1214 sf1203_b1178 ch1203 sf1203_b1178
  have fa1216 := fa1204.wr W1214 g_b1178
  have fa1217 := fa1205.other W1214 ne_b3_b1178
  have fa1218 := fa1206.other W1214 ne_b30_b1178
  have fa1219 := fa1207.wr W1214
  have fa1220 := fa1208.other W1214 (Or.inl ne_b1169_b1178)
  have fa1221 := fa1209.other W1214 (Or.inl ne_b1169_b1178)
  have z1222 : n0 ≤ h1214.size := Nat.le_trans z1210 (Nat.le_of_eq W1214.size.symm)
  have hk := Nat.le_trans hk (Nat.le_of_eq W1214.size.symm)
  have kp1223 : Keep h0 h1214 [] := kp1211.wr W1214 (Or.inr sz_b1178)
  have fa1224 : Arv Z h1214 b1178 k1178 .char (3 : Int32) [(.int (nar .char c0)), (.int (nar .char c1)), (.int (nar .char c2))] (.int (0 : Int32)) := Arv.set Ar1213 q1213 S1213 M1213 H1213 G1213 (fits_nar_char _) W1214 2 rfl (Nat.le_of_ble_eq_true rfl)
  have N1214 := Fr.snoc X1214 N1202 g_b1178
  have fa1225 : Arv Z h1214 b1178 k1178 .char (3 : Int32) [(.int c0), (.int c1), (.int c2)] (.int (0 : Int32)) := by have q := fa1224; rw [own_narc c0 hb_c0, own_narc c1 hb_c1, own_narc c2 hb_c2] at q; exact q
  have G1226 : ∀ t, Steps p.tables e below (T1214.setTop (mkF m 190 #[iv p0, iv p1, iv c0, iv c1, iv c2, iv 3, iv d0, iv d1, iv d2, iv u2, rv b3, rv b30, .unset, .unset, .unset, .unset] [(.ref b1178), (.ref b1169), (.ref b1169)])) t → Steps p.tables e below (s₁.setTop (entryFrame m #[(.int p0), (.int p1)] maxLocals)) t := by
   intro t kt
   refine G1168 _ ?_
   refine XS.icmpYes X54.here hx rfl (pc0 := 144) (pc' := 170) rfl (hb hby at_144) rfl (feq (by decide)).2 (by decide) (by decide) ?_
   refine st1169 _ ?_
   refine XS.dup X1169.here hx rfl (hb hby at_173) rfl rfl ?_
   refine XS.iconst X1169.here hx rfl (hb hby at_174) ?_
   refine st1178 _ ?_
   refine XS.dup X1178.here hx rfl (hb hby at_177) rfl rfl ?_
   refine XS.iconst X1178.here hx rfl (hb hby at_178) ?_
   refine XS.iloadN X1178.here hx rfl (hb hby at_179) rfl ?_
   refine st1190 _ ?_
   refine XS.dup X1190.here hx rfl (hb hby at_181) rfl rfl ?_
   refine XS.iconst X1190.here hx rfl (hb hby at_182) ?_
   refine XS.iloadN X1190.here hx rfl (hb hby at_183) rfl ?_
   show Steps p.tables e below (T1190.setTop (mkF m 184 #[iv p0, iv p1, iv c0, iv c1, iv c2, iv 3, iv d0, iv d1, iv d2, iv u2, rv b3, rv b30, .unset, .unset, .unset, .unset] [(.int c1), (.int (1 : Int32)), (.ref b1178), (.ref b1178), (.ref b1169), (.ref b1169)])) _
   refine st1202 _ ?_
   refine XS.dup X1202.here hx rfl (hb hby at_185) rfl rfl ?_
   refine XS.iconst X1202.here hx rfl (hb hby at_186) ?_
   refine XS.iload X1202.here hx rfl (hb hby at_187) rfl ?_
   refine st1214 _ ?_
   exact kt
  obtain ⟨_, _, ⟨T1227, L1227, k1227, n1227⟩, -, X1227, ⟨Lc1227, hQ1227, l1227, y1227, z1227⟩, st1227⟩ := X1214.specialBack hx (y := (⟨"java/lang/String", "<init>", "([C)V"⟩ : MethodName)) rfl hown (mvT hZ (hq hw 4 rfl)) (mvT hZ (hq hw 5 rfl)) (mvT hZ (hq hw 6 rfl)) (by decide) (backOf (W := 1) (rmSF_3 l Z a0 hw [] b1169 b1178 c0 c1 c2 k1178 cst fv h1214 n0 z1222 fa1219 fa1221 fa1220 fa1225 fa1216 g_b1169 ne_b1169_b1178 hb_c0 hb_c1 hb_c2 hp_c0 hp_c1 hp_c2 SS) hZ (hq hw 6 rfl) (hq hw 3 rfl) (by decide) (by decide)) (g := (mkF m 190 #[iv p0, iv p1, iv c0, iv c1, iv c2, iv 3, iv d0, iv d1, iv d2, iv u2, rv b3, rv b30, .unset, .unset, .unset, .unset] [(.ref b1178), (.ref b1169), (.ref b1169)])) rfl (by rw [hml]; rfl) (Steps.refl _) (a := b1169) (argsL := [(.ref b1178)]) (rest := [(.ref b1169)]) (lenOf pd_26 rfl) rfl (by show 2 * 0 + _ ≤ _; exact Nat.le_of_eq rfl) (hb hby at_190) (fun _ _ => ⟨rfl, e1214, (by decide : 4 + 1 ≤ _), (by decide : 13 + 3 ≤ _)⟩)
  dsimp only [Pt.U, Pt.locs, Pt.cells, Pt.slots] at X1227 l1227 y1227 z1227 st1227 hQ1227
  subst l1227 y1227 z1227
  rcases hQ1227 with ⟨rfl, N1227q, K1227, A1227, hq1227, Fc1227, ta1227, kb1227, Fv1227, sz1227, g_ta1227, V1227⟩
  ·skip
   have N1227 := Fr.app N1214 N1227q
   have szk1227 : h0.size ≤ ta1227 := Nat.le_trans kp1223.1 sz1227
   have ne_b3_ta1227 : b3 ≠ ta1227 := Nat.ne_of_lt (Nat.lt_of_lt_of_le fa1217.lt sz1227)
   have ne_b30_ta1227 : b30 ≠ ta1227 := Nat.ne_of_lt (Nat.lt_of_lt_of_le fa1218.lt sz1227)
   have ne_b1169_ta1227 : b1169 ≠ ta1227 := Nat.ne_of_lt (Nat.lt_of_lt_of_le fa1219.lt sz1227)
   have ne_b1178_ta1227 : b1178 ≠ ta1227 := Nat.ne_of_lt (Nat.lt_of_lt_of_le fa1225.lt sz1227)
   have ch1228 : CHv Z own_EL s.vm T1227.heap := ch1215.keep K1227 (allS sf1215_b1169 all0)
   have cr1228 : CHr Z own_EL s.vm h0 s.vm T1227.heap := cr1215.trans (CHr.keep K1227 (allS sf1215_b1169 all0) ch1215)
   have sf1228_b1169 : Safe Z own_EL s.vm T1227.heap b1169 := Safe.keep K1227 (allS sf1215_b1169 all0) ch1215 sf1215_b1169
   have sf1228_b1178 : Safe Z own_EL s.vm T1227.heap b1178 := Safe.keep K1227 (allS sf1215_b1169 all0) ch1215 sf1215_b1178
   have fa1229 := fa1216.keep K1227 (allS g_b1169 all0)
   have fa1230 := fa1217.keep K1227 (ninS ne_b3_b1169 nin0)
   have fa1231 := fa1218.keep K1227 (ninS ne_b30_b1169 nin0)
   have fa1232 := fa1219.keep K1227
   have fa1233 := fa1225.keep K1227 (ninS (Ne.symm ne_b1169_b1178) nin0)
   have z1234 : n0 ≤ T1227.heap.size := Nat.le_trans z1222 K1227.1
   have hk := Nat.le_trans hk K1227.1
   have kp1235 : Keep h0 T1227.heap [] := kp1223.trans K1227 (allS (Or.inr sz_b1169) all0)
   have G1236 : ∀ t, Steps p.tables e below (T1227.setTop (mkF m 195 #[iv p0, iv p1, iv c0, iv c1, iv c2, iv 3, iv d0, iv d1, iv d2, iv u2, rv b3, rv b30, rv b1169, .unset, .unset, .unset] [])) t → Steps p.tables e below (s₁.setTop (entryFrame m #[(.int p0), (.int p1)] maxLocals)) t := by
    intro t kt
    refine G1226 _ ?_
    refine st1227.trans ?_
    refine XS.astore X1227.here hx rfl (hb hby at_193) rfl rfl (l' := #[iv p0, iv p1, iv c0, iv c1, iv c2, iv 3, iv d0, iv d1, iv d2, iv u2, rv b3, rv b30, rv b1169, .unset, .unset, .unset]) rfl ?_
    exact kt
   rcases own_at4 hu2' with rfl | rfl | rfl | rfl
   ·skip
    have G1237 : ∀ t, Steps p.tables e below (T1227.setTop (mkF m 197 #[iv p0, iv p1, iv c0, iv c1, iv c2, iv 3, iv d0, iv d1, iv d2, iv 0, rv b3, rv b30, rv b1169, .unset, .unset, .unset] [(.int (0 : Int32))])) t → Steps p.tables e below (s₁.setTop (entryFrame m #[(.int p0), (.int p1)] maxLocals)) t := by
     intro t kt
     refine G1236 _ ?_
     refine XS.iload X1227.here hx rfl (hb hby at_195) rfl ?_
     exact kt
    obtain ⟨T1238, h1238, X1238, e1238, E1238, A1238, D1238, -, st1238⟩ := newO X1227 hx hZ hown (hq hw 1 rfl) (hq hw 2 rfl) (hq hw 3 rfl) rfl (g := (mkF m 200 #[iv p0, iv p1, iv c0, iv c1, iv c2, iv 3, iv d0, iv d1, iv d2, iv 0, rv b3, rv b30, rv b1169, .unset, .unset, .unset] [])) rfl (hb hby at_200) (by decide) (by decide)
    obtain ⟨b1238, g1238⟩ : ∃ z, z = T1227.heap.size := ⟨_, rfl⟩
    rw [← g1238] at A1238 D1238 st1238
    have g_b1238 : n0 ≤ b1238 := Nat.le_trans z1234 (Nat.le_of_eq g1238.symm)
    have sz_b1238 : h0.size ≤ b1238 := Nat.le_trans kp1235.1 (Nat.le_of_eq g1238.symm)
    have ne_b3_b1238 : b3 ≠ b1238 := Nat.ne_of_lt (Nat.lt_of_lt_of_le fa1230.lt (Nat.le_of_eq g1238.symm))
    have ne_b30_b1238 : b30 ≠ b1238 := Nat.ne_of_lt (Nat.lt_of_lt_of_le fa1231.lt (Nat.le_of_eq g1238.symm))
    have ne_b1169_b1238 : b1169 ≠ b1238 := Nat.ne_of_lt (Nat.lt_of_lt_of_le A1227.lt (Nat.le_of_eq g1238.symm))
    have ne_ta1227_b1238 : ta1227 ≠ b1238 := Nat.ne_of_lt (Nat.lt_of_lt_of_le V1227.lt (Nat.le_of_eq g1238.symm))
    have ch1239 : CHv Z own_EL s.vm h1238 := ch1228.ext E1238
    have cr1239 : CHr Z own_EL s.vm h0 s.vm h1238 := cr1228.trans (CHr.ext E1238 ch1228)
    have sf1239_b1238 : Safe Z own_EL s.vm h1238 b1238 := Safe.ext E1238 ch1228 (Safe.new (Nat.le_of_eq g1238.symm))
    have fa1240 := fa1229.ext E1238
    have fa1241 := fa1230.ext E1238
    have fa1242 := fa1231.ext E1238
    have fa1243 := A1227.ext E1238
    have fa1244 := V1227.ext E1238
    have fa1245 := Fc1227.ext E1238
    have fa1246 := Fv1227.ext E1238
    have z1247 : n0 ≤ h1238.size := Nat.le_trans z1234 E1238.1
    have hk := Nat.le_trans hk E1238.1
    have kp1248 : Keep h0 h1238 [] := kp1235.ext E1238
    have fa1249 : Fld Z h1238 b1238 "java/lang/String" "coder" "B" (.int (0 : Int32)) := D1238 (Or.inr (hq hw 27 rfl)) (ty := .byte) (by decide)
    have fa1250 : Fld Z h1238 b1238 "java/lang/String" "value" "[B" .null := D1238 (Or.inr (hq hw 29 rfl)) (ty := (.array .byte)) (by decide)
    obtain ⟨T1251, h1251, k1251, X1251, e1251, E1251, A1251, st1251⟩ := newP X1238 hx hZ (hq hw 0 rfl) e1238 (g := (mkF m 205 #[iv p0, iv p1, iv c0, iv c1, iv c2, iv 3, iv d0, iv d1, iv d2, iv 0, rv b3, rv b30, rv b1169, .unset, .unset, .unset] [(.int (0 : Int32)), (.ref b1238), (.ref b1238)])) rfl (hb hby at_205) rfl (by decide) (cap := 0) (by decide) (by decide) (by decide) (by decide)
    obtain ⟨b1251, g1251⟩ : ∃ z, z = h1238.size := ⟨_, rfl⟩
    rw [← g1251] at A1251 st1251
    have g_b1251 : n0 ≤ b1251 := Nat.le_trans z1247 (Nat.le_of_eq g1251.symm)
    have sz_b1251 : h0.size ≤ b1251 := Nat.le_trans kp1248.1 (Nat.le_of_eq g1251.symm)
    have ne_b3_b1251 : b3 ≠ b1251 := Nat.ne_of_lt (Nat.lt_of_lt_of_le fa1241.lt (Nat.le_of_eq g1251.symm))
    have ne_b30_b1251 : b30 ≠ b1251 := Nat.ne_of_lt (Nat.lt_of_lt_of_le fa1242.lt (Nat.le_of_eq g1251.symm))
    have ne_b1169_b1251 : b1169 ≠ b1251 := Nat.ne_of_lt (Nat.lt_of_lt_of_le fa1243.lt (Nat.le_of_eq g1251.symm))
    have ne_ta1227_b1251 : ta1227 ≠ b1251 := Nat.ne_of_lt (Nat.lt_of_lt_of_le fa1244.lt (Nat.le_of_eq g1251.symm))
    have ne_b1238_b1251 : b1238 ≠ b1251 := Nat.ne_of_lt (Nat.lt_of_lt_of_le A1238.lt (Nat.le_of_eq g1251.symm))
    have ch1252 : CHv Z own_EL s.vm h1251 := ch1239.ext E1251
    have cr1252 : CHr Z own_EL s.vm h0 s.vm h1251 := cr1239.trans (CHr.ext E1251 ch1239)
    have sf1252_b1238 : Safe Z own_EL s.vm h1251 b1238 := Safe.ext E1251 ch1239 sf1239_b1238
    have sf1252_b1251 : Safe Z own_EL s.vm h1251 b1251 := Safe.ext E1251 ch1239 (Safe.new (Nat.le_of_eq g1251.symm))
    have fa1253 := fa1240.ext E1251
    have fa1254 := fa1241.ext E1251
    have fa1255 := fa1242.ext E1251
    have fa1256 := fa1243.ext E1251
    have fa1257 := fa1244.ext E1251
    have fa1258 := fa1245.ext E1251
    have fa1259 := fa1246.ext E1251
    have fa1260 := A1238.ext E1251
    have fa1261 := fa1249.ext E1251
    have fa1262 := fa1250.ext E1251
    have z1263 : n0 ≤ h1251.size := Nat.le_trans z1247 E1251.1
    have hk := Nat.le_trans hk E1251.1
    have kp1264 : Keep h0 h1251 [] := kp1248.ext E1251
    have fa1265 : Arv Z h1251 b1251 k1251 .char (0 : Int32) [] (.int (0 : Int32)) := (Arv.new A1251 (by decide)).pad (pad_rep [] (.int (0 : Int32)) 0)
    have G1266 : ∀ t, Steps p.tables e below (T1251.setTop (mkF m 207 #[iv p0, iv p1, iv c0, iv c1, iv c2, iv 3, iv d0, iv d1, iv d2, iv 0, rv b3, rv b30, rv b1169, .unset, .unset, .unset] [(.ref b1251), (.ref b1238), (.ref b1238)])) t → Steps p.tables e below (s₁.setTop (entryFrame m #[(.int p0), (.int p1)] maxLocals)) t := by
     intro t kt
     refine G1237 _ ?_
     refine XS.ifNo X1227.here hx rfl (hb hby at_197) rfl ((if0 _ _).trans (teq (by decide)).2) ?_
     refine st1238 _ ?_
     refine XS.dup X1238.here hx rfl (hb hby at_203) rfl rfl ?_
     refine XS.iconst X1238.here hx rfl (hb hby at_204) ?_
     refine st1251 _ ?_
     exact kt
    obtain ⟨_, vm1267, ⟨T1267, L1267, k1267, n1267⟩, -, X1267, hS1267, gr1267, ⟨Lc1267, hQ1267, l1267, y1267, z1267, C1267⟩, st1267⟩ := X1251.specialBackS hx (y := (⟨"java/lang/String", "<init>", "([C)V"⟩ : MethodName)) rfl hown (mvT hZ (hq hw 4 rfl)) (mvT hZ (hq hw 5 rfl)) (mvT hZ (hq hw 6 rfl)) (by decide) (backOfSH (s := s) (vm0 := s.vm) (W := 1) (rmSF_0 l Z a0 hw [] b1238 b1251 k1251 h1251 n0 z1263 fa1260 fa1262 fa1261 fa1265 g_b1238 ne_b1238_b1251) hZ (hq hw 6 rfl) (hq hw 3 rfl) (by decide) (by decide) hEL ch1252) (g := (mkF m 207 #[iv p0, iv p1, iv c0, iv c1, iv c2, iv 3, iv d0, iv d1, iv d2, iv 0, rv b3, rv b30, rv b1169, .unset, .unset, .unset] [(.ref b1251), (.ref b1238), (.ref b1238)])) rfl (by rw [hml]; rfl) (Steps.refl _) (a := b1238) (argsL := [(.ref b1251)]) (rest := [(.ref b1238)]) (lenOf pd_26 rfl) rfl (by show 2 * 0 + _ ≤ _; exact Nat.le_of_eq rfl) (hb hby at_207) (fun _ _ => ⟨rfl, e1251, (by decide : 7 + 4 ≤ _), (by decide : 20 + 8 ≤ _)⟩)
    dsimp only [Pt.U, Pt.locs, Pt.cells, Pt.slots] at X1267 l1267 y1267 z1267 st1267 hQ1267 hS1267 gr1267 C1267
    subst l1267 y1267 z1267
    have hS := hS.trans hS1267 (Nat.le_trans hk (by rw [← show T1251.heap = h1251 from e1251]; exact gr1267))
    have hZ : Z.Warmed39 (s.setVm T1267.vm).vm := State.Warmed39.trans hZ hS1267.1
    have hown : (s.setVm T1267.vm).vm.findClass "com/example/fides/fides/RecordIdToStringPinLaw" = some m.cls := by rw [show (s.setVm T1267.vm).vm = T1267.vm from rfl, hS1267.1.alike.findClass]; exact hown
    have X1267 : Stand p l e room_1 (s.setVm T1267.vm) m #[(.int p0), (.int p1)] below meth c T1267 _ _ _ := X1267
    have hk : T1267.heap.size ≤ T1267.heap.size := Nat.le_refl _
    have cr1268 := cr1252.trans C1267
    have ch1268 := C1267.1
    have sf1268_b1238 := C1267.safe fa1260.lt sf1252_b1238
    have sf1268_b1251 := C1267.safe fa1265.lt sf1252_b1251
    obtain ⟨rfl, N1267q, K1267, A1267, Fc1267, ta1267, kb1267, Fv1267, V1267⟩ := hQ1267
    have N1267 := Fr.app N1227 N1267q
    have fa1269 := fa1253.keep K1267 (allS g_b1238 all0)
    have fa1270 := fa1254.keep K1267 (ninS ne_b3_b1238 nin0)
    have fa1271 := fa1255.keep K1267 (ninS ne_b30_b1238 nin0)
    have fa1272 := fa1256.keep K1267
    have fa1273 := fa1257.keep K1267 (ninS ne_ta1227_b1238 nin0)
    have fa1274 := fa1258.keep K1267 (ninS ne_b1169_b1238 nin0)
    have fa1275 := fa1259.keep K1267 (ninS ne_b1169_b1238 nin0)
    have fa1276 := fa1260.keep K1267
    have fa1277 := fa1265.keep K1267 (ninS (Ne.symm ne_b1238_b1251) nin0)
    have z1278 : n0 ≤ T1267.heap.size := Nat.le_trans z1263 K1267.1
    have kp1279 : Keep h0 T1267.heap [] := kp1264.trans K1267 (allS (Or.inr sz_b1238) all0)
    obtain ⟨T1280, h1280, X1280, e1280, E1280, A1280, D1280, -, st1280⟩ := newO X1267 hx hZ hown (hq hw 33 rfl) (hq hw 34 rfl) (hq hw 35 rfl) rfl (g := (mkF m 299 #[iv p0, iv p1, iv c0, iv c1, iv c2, iv 3, iv d0, iv d1, iv d2, iv 0, rv b3, rv b30, rv b1169, rv b1238, .unset, .unset] [])) rfl (hb hby at_299) (by decide) (by decide)
    obtain ⟨b1280, g1280⟩ : ∃ z, z = T1267.heap.size := ⟨_, rfl⟩
    rw [← g1280] at A1280 D1280 st1280
    have g_b1280 : n0 ≤ b1280 := Nat.le_trans z1278 (Nat.le_of_eq g1280.symm)
    have sz_b1280 : h0.size ≤ b1280 := Nat.le_trans kp1279.1 (Nat.le_of_eq g1280.symm)
    have ne_b3_b1280 : b3 ≠ b1280 := Nat.ne_of_lt (Nat.lt_of_lt_of_le fa1270.lt (Nat.le_of_eq g1280.symm))
    have ne_b30_b1280 : b30 ≠ b1280 := Nat.ne_of_lt (Nat.lt_of_lt_of_le fa1271.lt (Nat.le_of_eq g1280.symm))
    have ne_b1169_b1280 : b1169 ≠ b1280 := Nat.ne_of_lt (Nat.lt_of_lt_of_le fa1272.lt (Nat.le_of_eq g1280.symm))
    have ne_ta1227_b1280 : ta1227 ≠ b1280 := Nat.ne_of_lt (Nat.lt_of_lt_of_le fa1273.lt (Nat.le_of_eq g1280.symm))
    have ne_b1238_b1280 : b1238 ≠ b1280 := Nat.ne_of_lt (Nat.lt_of_lt_of_le A1267.lt (Nat.le_of_eq g1280.symm))
    have ne_ta1267_b1280 : ta1267 ≠ b1280 := Nat.ne_of_lt (Nat.lt_of_lt_of_le V1267.lt (Nat.le_of_eq g1280.symm))
    have ch1281 : CHv Z own_EL T1267.vm h1280 := ch1268.ext E1280
    have cr1281 : CHr Z own_EL s.vm h0 T1267.vm h1280 := cr1268.trans (CHr.ext E1280 ch1268)
    have sf1281_b1280 : Safe Z own_EL T1267.vm h1280 b1280 := Safe.ext E1280 ch1268 (Safe.new (Nat.le_of_eq g1280.symm))
    have fa1282 := fa1269.ext E1280
    have fa1283 := fa1270.ext E1280
    have fa1284 := fa1271.ext E1280
    have fa1285 := fa1272.ext E1280
    have fa1286 := fa1273.ext E1280
    have fa1287 := fa1274.ext E1280
    have fa1288 := fa1275.ext E1280
    have fa1289 := A1267.ext E1280
    have fa1290 := Fc1267.ext E1280
    have fa1291 := Fv1267.ext E1280
    have fa1292 := V1267.ext E1280
    have z1293 : n0 ≤ h1280.size := Nat.le_trans z1278 E1280.1
    have hk := Nat.le_trans hk E1280.1
    have kp1294 : Keep h0 h1280 [] := kp1279.ext E1280
    have fa1295 : Fld Z h1280 b1280 "com/example/fides/fides/RecordId" "table" "Ljava/lang/String;" .null := D1280 (Or.inr (hq hw 57 rfl)) (ty := (.object "java/lang/String")) (by decide)
    have fa1296 : Fld Z h1280 b1280 "com/example/fides/fides/RecordId" "key" "Ljava/lang/String;" .null := D1280 (Or.inr (hq hw 59 rfl)) (ty := (.object "java/lang/String")) (by decide)
    have G1297 : ∀ t, Steps p.tables e below (T1280.setTop (mkF m 307 #[iv p0, iv p1, iv c0, iv c1, iv c2, iv 3, iv d0, iv d1, iv d2, iv 0, rv b3, rv b30, rv b1169, rv b1238, .unset, .unset] [(.ref b1238), (.ref b1169), (.ref b1280), (.ref b1280)])) t → Steps p.tables e below (s₁.setTop (entryFrame m #[(.int p0), (.int p1)] maxLocals)) t := by
     intro t kt
     refine G1266 _ ?_
     refine st1267.trans ?_
     refine XS.astore X1267.here hx rfl (hb hby at_210) rfl rfl (l' := #[iv p0, iv p1, iv c0, iv c1, iv c2, iv 3, iv d0, iv d1, iv d2, iv 0, rv b3, rv b30, rv b1169, rv b1238, .unset, .unset]) rfl ?_
     refine XS.goto X1267.here hx rfl (pc0 := 212) (pc' := 299) rfl (hb hby at_212) (by decide) (by decide) ?_
     refine st1280 _ ?_
     refine XS.dup X1280.here hx rfl (hb hby at_302) rfl rfl ?_
     refine XS.aload X1280.here hx rfl (hb hby at_303) rfl rfl ?_
     refine XS.aload X1280.here hx rfl (hb hby at_305) rfl rfl ?_
     exact kt
    obtain ⟨_, vm1298, ⟨T1298, L1298, k1298, n1298⟩, -, X1298, hS1298, gr1298, ⟨Lc1298, hQ1298, l1298, y1298, z1298, C1298⟩, st1298⟩ := X1280.specialBackS hx (y := (⟨"com/example/fides/fides/RecordId", "<init>", "(Ljava/lang/String;Ljava/lang/String;)V"⟩ : MethodName)) rfl hown (mvT hZ (hq hw 36 rfl)) (mvT hZ (hq hw 37 rfl)) (mvT hZ (hq hw 38 rfl)) (by decide) (backOfSH (s := s) (vm0 := T1267.vm) (W := 1) (rm7 l Z a0 hw [] b1280 b1169 b1238 ta1227 kb1227 (3 : Int32) [(.int (nar .byte (c0.toInt8.toInt32))), (.int (nar .byte (c1.toInt8.toInt32))), (.int (nar .byte (c2.toInt8.toInt32)))] h1280 n0 z1293 A1280 fa1295 fa1296 fa1285 fa1288 fa1286 g_b1280 (Ne.symm ne_b1169_b1280) (Ne.symm ne_ta1227_b1280) (by decide)) hZ (hq hw 38 rfl) (hq hw 35 rfl) (by decide) (by decide) hEL ch1281) (g := (mkF m 307 #[iv p0, iv p1, iv c0, iv c1, iv c2, iv 3, iv d0, iv d1, iv d2, iv 0, rv b3, rv b30, rv b1169, rv b1238, .unset, .unset] [(.ref b1238), (.ref b1169), (.ref b1280), (.ref b1280)])) rfl (by rw [hml]; rfl) (Steps.refl _) (a := b1280) (argsL := [(.ref b1169), (.ref b1238)]) (rest := [(.ref b1280)]) (lenOf pd_27 rfl) rfl (by show 2 * 0 + _ ≤ _; exact Nat.le_of_eq rfl) (hb hby at_307) (fun _ _ => ⟨rfl, e1280, (by decide : 12 + 4 ≤ _), (by decide : 30 + 40 ≤ _)⟩)
    dsimp only [Pt.U, Pt.locs, Pt.cells, Pt.slots] at X1298 l1298 y1298 z1298 st1298 hQ1298 hS1298 gr1298 C1298
    subst l1298 y1298 z1298
    have hS := hS.trans hS1298 (Nat.le_trans hk (by rw [← show T1280.heap = h1280 from e1280]; exact gr1298))
    have hZ : Z.Warmed39 (s.setVm T1298.vm).vm := State.Warmed39.trans hZ hS1298.1
    have hown : (s.setVm T1298.vm).vm.findClass "com/example/fides/fides/RecordIdToStringPinLaw" = some m.cls := by rw [show (s.setVm T1298.vm).vm = T1298.vm from rfl, hS1298.1.alike.findClass]; exact hown
    have X1298 : Stand p l e room_1 (s.setVm T1298.vm) m #[(.int p0), (.int p1)] below meth c T1298 _ _ _ := X1298
    have hk : T1298.heap.size ≤ T1298.heap.size := Nat.le_refl _
    have cr1299 := cr1281.trans C1298
    have ch1299 := C1298.1
    have sf1299_b1280 := C1298.safe A1280.lt sf1281_b1280
    obtain ⟨rfl, N1298q, K1298, Ft1298, Fk1298⟩ := hQ1298
    have N1298 := Fr.app N1267 N1298q
    have fa1300 := fa1282.keep K1298 (allS g_b1280 all0)
    have fa1301 := fa1283.keep K1298 (ninS ne_b3_b1280 nin0)
    have fa1302 := fa1284.keep K1298 (ninS ne_b30_b1280 nin0)
    have fa1303 := fa1285.keep K1298
    have fa1304 := fa1286.keep K1298 (ninS ne_ta1227_b1280 nin0)
    have fa1305 := fa1287.keep K1298 (ninS ne_b1169_b1280 nin0)
    have fa1306 := fa1288.keep K1298 (ninS ne_b1169_b1280 nin0)
    have fa1307 := fa1289.keep K1298
    have fa1308 := fa1290.keep K1298 (ninS ne_b1238_b1280 nin0)
    have fa1309 := fa1291.keep K1298 (ninS ne_b1238_b1280 nin0)
    have fa1310 := fa1292.keep K1298 (ninS ne_ta1267_b1280 nin0)
    have fa1311 := A1280.keep K1298
    have z1312 : n0 ≤ T1298.heap.size := Nat.le_trans z1293 K1298.1
    have kp1313 : Keep h0 T1298.heap [] := kp1294.trans K1298 (allS (Or.inr sz_b1280) all0)
    have G1314 : ∀ t, Steps p.tables e below (T1298.setTop (mkF m 310 #[iv p0, iv p1, iv c0, iv c1, iv c2, iv 3, iv d0, iv d1, iv d2, iv 0, rv b3, rv b30, rv b1169, rv b1238, .unset, .unset] [(.ref b1280)])) t → Steps p.tables e below (s₁.setTop (entryFrame m #[(.int p0), (.int p1)] maxLocals)) t := by
     intro t kt
     refine G1297 _ ?_
     refine st1298.trans ?_
     exact kt
    obtain ⟨cq1315, kq1315, q1315a, q1315b, q1315c⟩ := isOf hZ rfl fa1311
    obtain ⟨_, vm1315, ⟨T1315, L1315, k1315, n1315⟩, -, X1315, hS1315, gr1315, ⟨Lc1315, hQ1315, l1315, y1315, z1315, C1315⟩, st1315⟩ := X1298.virtualBackS hx (y := (⟨"com/example/fides/fides/RecordId", "toString", "()Ljava/lang/String;"⟩ : MethodName)) (z := (⟨"com/example/fides/fides/RecordId", "toString", "()Ljava/lang/String;"⟩ : MethodName)) hown (mvT hZ (hq hw 60 rfl)) (mvT hZ (hq hw 61 rfl)) (notFace_of_selects (args := #[]) (mvT hZ (hq hw 63 rfl))) (mvT hZ (hq hw 63 rfl)) (mvT hZ (hq hw 62 rfl)) (by decide) (backOfSH (s := s) (vm0 := T1298.vm) (W := 0) (rm11 l Z a0 hw [] b1280 b1169 ta1227 kb1227 (3 : Int32) [(.int (nar .byte (c0.toInt8.toInt32))), (.int (nar .byte (c1.toInt8.toInt32))), (.int (nar .byte (c2.toInt8.toInt32)))] b1238 ta1267 kb1267 (0 : Int32) [] (4 : Int32) [(.int (nar .byte (c0.toInt8.toInt32))), (.int (nar .byte (c1.toInt8.toInt32))), (.int (nar .byte (c2.toInt8.toInt32))), (.int (47 : Int32))] cst fv T1298.heap n0 z1312 Ft1298 Fk1298 fa1303 fa1305 fa1306 fa1304 fa1307 fa1308 fa1309 fa1310 fa1300 (by decide) (own_mkok (by decide) (by decide) (by decide) (by decide) (Nat.le_of_ble_eq_true rfl)) (by decide) (own_mkok (by decide) (by decide) (by decide) (by decide) (Nat.le_of_ble_eq_true rfl)) (by decide) (own_mkok (by decide) (by decide) (by decide) (by decide) (Nat.le_of_ble_eq_true rfl)) (own_cr4) (by decide) rfl SS) hZ (hq hw 64 rfl) (hq hw 35 rfl) (by decide) (by decide) hEL ch1299) q1315a q1315c (g := (mkF m 310 #[iv p0, iv p1, iv c0, iv c1, iv c2, iv 3, iv d0, iv d1, iv d2, iv 0, rv b3, rv b30, rv b1169, rv b1238, .unset, .unset] [(.ref b1280)])) rfl (by rw [hml]; rfl) (Steps.refl _) (argsL := []) (rest := []) (lenOf pd_23 rfl) rfl (by show 2 * 0 + _ ≤ _; exact Nat.le_of_eq rfl) (hb hby at_310) (fun _ _ => ⟨rfl, rfl, (by decide : 16 + 6 ≤ _), (by decide : 70 + 40 ≤ _)⟩)
    dsimp only [Pt.U, Pt.locs, Pt.cells, Pt.slots] at X1315 l1315 y1315 z1315 st1315 hQ1315 hS1315 gr1315 C1315
    subst l1315 y1315 z1315
    have hS := hS.trans hS1315 (Nat.le_trans hk (by rw [← show T1298.heap = T1298.heap from rfl]; exact gr1315))
    have hZ : Z.Warmed39 (s.setVm T1315.vm).vm := State.Warmed39.trans hZ hS1315.1
    have hown : (s.setVm T1315.vm).vm.findClass "com/example/fides/fides/RecordIdToStringPinLaw" = some m.cls := by rw [show (s.setVm T1315.vm).vm = T1315.vm from rfl, hS1315.1.alike.findClass]; exact hown
    have X1315 : Stand p l e room_1 (s.setVm T1315.vm) m #[(.int p0), (.int p1)] below meth c T1315 _ _ _ := X1315
    have hk : T1315.heap.size ≤ T1315.heap.size := Nat.le_refl _
    have cr1316 := cr1299.trans C1315
    have ch1316 := C1315.1
    have sf1316_b1280 := C1315.safe fa1311.lt sf1299_b1280
    obtain ⟨s1315, t1315, kb1315, rfl, N1315q, K1315, A1315, Fc1315, Fv1315, V1315⟩ := hQ1315
    have N1315 := Fr.app N1298 N1315q
    have fa1317 := fa1300.keep K1315 all0
    have fa1318 := fa1301.keep K1315 nin0
    have fa1319 := fa1302.keep K1315 nin0
    have fa1320 := fa1303.keep K1315
    have fa1321 := fa1304.keep K1315 nin0
    have fa1322 := fa1305.keep K1315 nin0
    have fa1323 := fa1306.keep K1315 nin0
    have fa1324 := fa1307.keep K1315
    have fa1325 := fa1308.keep K1315 nin0
    have fa1326 := fa1309.keep K1315 nin0
    have fa1327 := fa1310.keep K1315 nin0
    have fa1328 := fa1311.keep K1315
    have fa1329 := Ft1298.keep K1315 nin0
    have fa1330 := Fk1298.keep K1315 nin0
    have z1331 : n0 ≤ T1315.heap.size := Nat.le_trans z1312 K1315.1
    have kp1332 : Keep h0 T1315.heap [] := kp1313.trans K1315 all0
    have G1333 : ∀ t, Steps p.tables e below (T1315.setTop (mkF m 324 #[iv p0, iv p1, iv c0, iv c1, iv c2, iv 3, iv d0, iv d1, iv d2, iv 0, rv b3, rv b30, rv b1169, rv b1238, rv s1315, iv 4] [])) t → Steps p.tables e below (s₁.setTop (entryFrame m #[(.int p0), (.int p1)] maxLocals)) t := by
     intro t kt
     refine G1314 _ ?_
     show Steps p.tables e below (T1298.setTop (mkF m 310 #[iv p0, iv p1, iv c0, iv c1, iv c2, iv 3, iv d0, iv d1, iv d2, iv 0, rv b3, rv b30, rv b1169, rv b1238, .unset, .unset] [(.ref b1280)])) _
     refine st1315.trans ?_
     refine XS.astore X1315.here hx rfl (hb hby at_313) rfl rfl (l' := #[iv p0, iv p1, iv c0, iv c1, iv c2, iv 3, iv d0, iv d1, iv d2, iv 0, rv b3, rv b30, rv b1169, rv b1238, rv s1315, .unset]) rfl ?_
     refine XS.iload X1315.here hx rfl (hb hby at_315) rfl ?_
     refine XS.iconst X1315.here hx rfl (hb hby at_317) ?_
     refine XS.iadd X1315.here hx rfl (hb hby at_318) rfl ?_
     refine XS.iload X1315.here hx rfl (hb hby at_319) rfl ?_
     refine XS.iadd X1315.here hx rfl (hb hby at_321) rfl ?_
     refine XS.istore X1315.here hx rfl (hb hby at_322) rfl (l' := #[iv p0, iv p1, iv c0, iv c1, iv c2, iv 3, iv d0, iv d1, iv d2, iv 0, rv b3, rv b30, rv b1169, rv b1238, rv s1315, iv 4]) rfl ?_
     exact kt
    obtain ⟨T1334, L1334, X1334, e1334, N1334, K1334⟩ := own_tail (l := l) (Z := Z) (a0 := a0) (iv p0) (iv p1) (iv c0) (iv c1) (iv c2) (iv d0) (iv d1) (iv d2) (iv 0) (rv b1169) (rv b1238) (3 : Int32) (4 : Int32) b3 b30 s1315 t1315 kb1315 (4 : Int32) [(.int (nar .byte (c0.toInt8.toInt32))), (.int (nar .byte (c1.toInt8.toInt32))), (.int (nar .byte (c2.toInt8.toInt32))), (.int (47 : Int32))] k3 (3 : Int32) [(.int c0), (.int c1), (.int c2)] k30 (3 : Int32) [(.int d0), (.int d1), (.int d2)] cst fv X1315 hx hZ hw hby hml hown rfl N1315 z1331 A1315 Fc1315 Fv1315 V1315 fa1318 fa1319 fa1317 (by decide) (by decide) (by decide) (own_atT (xx := (nar .byte (c0.toInt8.toInt32))) (cc := c0) (by decide) (by decide) (by decide) rfl (own_lat c0 hb_c0 hp_c0) (by decide) rfl (by decide)) (own_atT (xx := (nar .byte (c1.toInt8.toInt32))) (cc := c1) (by decide) (by decide) (by decide) rfl (own_lat c1 hb_c1 hp_c1) (by decide) rfl (by decide)) (own_atT (xx := (nar .byte (c2.toInt8.toInt32))) (cc := c2) (by decide) (by decide) (by decide) rfl (own_lat c2 hb_c2 hp_c2) (by decide) rfl (by decide)) (own_atM (xx := (47 : Int32)) (by decide) (by decide) (by decide) rfl (by decide) (by decide) (by decide)) (own_atD (by decide)) (own_atD (by decide)) (own_atD (by decide)) SS
    have G1335 : ∀ t, Steps p.tables e below (T1334.setTop (mkF m 461 #[iv p0, iv p1, iv c0, iv c1, iv c2, iv 3, iv d0, iv d1, iv d2, iv 0, rv b3, rv b30, rv b1169, rv b1238, rv s1315, iv 4] [])) t → Steps p.tables e below (s₁.setTop (entryFrame m #[(.int p0), (.int p1)] maxLocals)) t := fun t kt => G1333 t (K1334 t kt)
    obtain ⟨fs, hr, hrun, hended, hRW⟩ := X1334.leaveW (s := s) hS (by rw [show T1334.heap = T1315.heap from e1334]; exact hk) (v := some (.int (1 : Int32))) (fun h => by rw [Bd.returns] at h; cases h) (BodyLoose.notSynchronized Bd)
    refine ⟨_, _, G1335 _ ?_, hrun, hended, _, _, rfl, ?_, hRW.1, hRW.2.1, hRW.2.2.1, hRW.2.2.2.mono (by decide) (by decide)⟩
    ·skip
     refine XS.iconst X1334.here hx rfl (hb hby at_461) ?_
     refine XS.goto X1334.here hx rfl (pc0 := 462) (pc' := 466) rfl (hb hby at_462) (by decide) (by decide) ?_
     exact retN X1334 hx (t := .boolean) Bd.returns (by simp) (hb hby at_466) hr
    ·show Q0 Z p0 p1 cst fv h0 n0 _ T1334.heap _
     rw [e1334]
     exact ⟨rfl, N1334⟩
   ·skip
    have G1336 : ∀ t, Steps p.tables e below (T1227.setTop (mkF m 197 #[iv p0, iv p1, iv c0, iv c1, iv c2, iv 3, iv d0, iv d1, iv d2, iv 1, rv b3, rv b30, rv b1169, .unset, .unset, .unset] [(.int (1 : Int32))])) t → Steps p.tables e below (s₁.setTop (entryFrame m #[(.int p0), (.int p1)] maxLocals)) t := by
     intro t kt
     refine G1236 _ ?_
     refine XS.iload X1227.here hx rfl (hb hby at_195) rfl ?_
     exact kt
    have G1337 : ∀ t, Steps p.tables e below (T1227.setTop (mkF m 218 #[iv p0, iv p1, iv c0, iv c1, iv c2, iv 3, iv d0, iv d1, iv d2, iv 1, rv b3, rv b30, rv b1169, .unset, .unset, .unset] [(.int (1 : Int32)), (.int (1 : Int32))])) t → Steps p.tables e below (s₁.setTop (entryFrame m #[(.int p0), (.int p1)] maxLocals)) t := by
     intro t kt
     refine G1336 _ ?_
     refine XS.ifYes X1227.here hx rfl (pc0 := 197) (pc' := 215) rfl (hb hby at_197) rfl ((if0 _ _).trans (feq (by decide)).2) (by decide) (by decide) ?_
     refine XS.iload X1227.here hx rfl (hb hby at_215) rfl ?_
     refine XS.iconst X1227.here hx rfl (hb hby at_217) ?_
     exact kt
    obtain ⟨T1338, h1338, X1338, e1338, E1338, A1338, D1338, -, st1338⟩ := newO X1227 hx hZ hown (hq hw 1 rfl) (hq hw 2 rfl) (hq hw 3 rfl) rfl (g := (mkF m 221 #[iv p0, iv p1, iv c0, iv c1, iv c2, iv 3, iv d0, iv d1, iv d2, iv 1, rv b3, rv b30, rv b1169, .unset, .unset, .unset] [])) rfl (hb hby at_221) (by decide) (by decide)
    obtain ⟨b1338, g1338⟩ : ∃ z, z = T1227.heap.size := ⟨_, rfl⟩
    rw [← g1338] at A1338 D1338 st1338
    have g_b1338 : n0 ≤ b1338 := Nat.le_trans z1234 (Nat.le_of_eq g1338.symm)
    have sz_b1338 : h0.size ≤ b1338 := Nat.le_trans kp1235.1 (Nat.le_of_eq g1338.symm)
    have ne_b3_b1338 : b3 ≠ b1338 := Nat.ne_of_lt (Nat.lt_of_lt_of_le fa1230.lt (Nat.le_of_eq g1338.symm))
    have ne_b30_b1338 : b30 ≠ b1338 := Nat.ne_of_lt (Nat.lt_of_lt_of_le fa1231.lt (Nat.le_of_eq g1338.symm))
    have ne_b1169_b1338 : b1169 ≠ b1338 := Nat.ne_of_lt (Nat.lt_of_lt_of_le A1227.lt (Nat.le_of_eq g1338.symm))
    have ne_ta1227_b1338 : ta1227 ≠ b1338 := Nat.ne_of_lt (Nat.lt_of_lt_of_le V1227.lt (Nat.le_of_eq g1338.symm))
    have ch1339 : CHv Z own_EL s.vm h1338 := ch1228.ext E1338
    have cr1339 : CHr Z own_EL s.vm h0 s.vm h1338 := cr1228.trans (CHr.ext E1338 ch1228)
    have sf1339_b1338 : Safe Z own_EL s.vm h1338 b1338 := Safe.ext E1338 ch1228 (Safe.new (Nat.le_of_eq g1338.symm))
    have fa1340 := fa1229.ext E1338
    have fa1341 := fa1230.ext E1338
    have fa1342 := fa1231.ext E1338
    have fa1343 := A1227.ext E1338
    have fa1344 := V1227.ext E1338
    have fa1345 := Fc1227.ext E1338
    have fa1346 := Fv1227.ext E1338
    have z1347 : n0 ≤ h1338.size := Nat.le_trans z1234 E1338.1
    have hk := Nat.le_trans hk E1338.1
    have kp1348 : Keep h0 h1338 [] := kp1235.ext E1338
    have fa1349 : Fld Z h1338 b1338 "java/lang/String" "coder" "B" (.int (0 : Int32)) := D1338 (Or.inr (hq hw 27 rfl)) (ty := .byte) (by decide)
    have fa1350 : Fld Z h1338 b1338 "java/lang/String" "value" "[B" .null := D1338 (Or.inr (hq hw 29 rfl)) (ty := (.array .byte)) (by decide)
    obtain ⟨T1351, h1351, k1351, X1351, e1351, E1351, A1351, st1351⟩ := newP X1338 hx hZ (hq hw 0 rfl) e1338 (g := (mkF m 226 #[iv p0, iv p1, iv c0, iv c1, iv c2, iv 3, iv d0, iv d1, iv d2, iv 1, rv b3, rv b30, rv b1169, .unset, .unset, .unset] [(.int (1 : Int32)), (.ref b1338), (.ref b1338)])) rfl (hb hby at_226) rfl (by decide) (cap := 1) (by decide) (by decide) (by decide) (by decide)
    obtain ⟨b1351, g1351⟩ : ∃ z, z = h1338.size := ⟨_, rfl⟩
    rw [← g1351] at A1351 st1351
    have g_b1351 : n0 ≤ b1351 := Nat.le_trans z1347 (Nat.le_of_eq g1351.symm)
    have sz_b1351 : h0.size ≤ b1351 := Nat.le_trans kp1348.1 (Nat.le_of_eq g1351.symm)
    have ne_b3_b1351 : b3 ≠ b1351 := Nat.ne_of_lt (Nat.lt_of_lt_of_le fa1341.lt (Nat.le_of_eq g1351.symm))
    have ne_b30_b1351 : b30 ≠ b1351 := Nat.ne_of_lt (Nat.lt_of_lt_of_le fa1342.lt (Nat.le_of_eq g1351.symm))
    have ne_b1169_b1351 : b1169 ≠ b1351 := Nat.ne_of_lt (Nat.lt_of_lt_of_le fa1343.lt (Nat.le_of_eq g1351.symm))
    have ne_ta1227_b1351 : ta1227 ≠ b1351 := Nat.ne_of_lt (Nat.lt_of_lt_of_le fa1344.lt (Nat.le_of_eq g1351.symm))
    have ne_b1338_b1351 : b1338 ≠ b1351 := Nat.ne_of_lt (Nat.lt_of_lt_of_le A1338.lt (Nat.le_of_eq g1351.symm))
    have ch1352 : CHv Z own_EL s.vm h1351 := ch1339.ext E1351
    have cr1352 : CHr Z own_EL s.vm h0 s.vm h1351 := cr1339.trans (CHr.ext E1351 ch1339)
    have sf1352_b1338 : Safe Z own_EL s.vm h1351 b1338 := Safe.ext E1351 ch1339 sf1339_b1338
    have sf1352_b1351 : Safe Z own_EL s.vm h1351 b1351 := Safe.ext E1351 ch1339 (Safe.new (Nat.le_of_eq g1351.symm))
    have fa1353 := fa1340.ext E1351
    have fa1354 := fa1341.ext E1351
    have fa1355 := fa1342.ext E1351
    have fa1356 := fa1343.ext E1351
    have fa1357 := fa1344.ext E1351
    have fa1358 := fa1345.ext E1351
    have fa1359 := fa1346.ext E1351
    have fa1360 := A1338.ext E1351
    have fa1361 := fa1349.ext E1351
    have fa1362 := fa1350.ext E1351
    have z1363 : n0 ≤ h1351.size := Nat.le_trans z1347 E1351.1
    have hk := Nat.le_trans hk E1351.1
    have kp1364 : Keep h0 h1351 [] := kp1348.ext E1351
    have fa1365 : Arv Z h1351 b1351 k1351 .char (1 : Int32) [(.int (0 : Int32))] (.int (0 : Int32)) := (Arv.new A1351 (by decide)).pad (pad_rep [] (.int (0 : Int32)) 1)
    obtain ⟨cl1366, Ar1366, q1366, S1366, M1366, H1366, G1366⟩ := id fa1365
    have hin1366 : ¬ ((0 : Int32) < 0 ∨ cl1366.slots.size ≤ ((0 : Int32)).toNatClampNeg) := inb_of S1366 ⟨by decide, by decide⟩
    obtain ⟨T1367, h1367, X1367, e1367, W1367, st1367⟩ := stC X1351 hx hZ e1351 Ar1366 (j := (0 : Int32)) hin1366 (g := (mkF m 232 #[iv p0, iv p1, iv c0, iv c1, iv c2, iv 3, iv d0, iv d1, iv d2, iv 1, rv b3, rv b30, rv b1169, .unset, .unset, .unset] [(.int d0), (.int (0 : Int32)), (.ref b1351), (.ref b1351), (.ref b1338), (.ref b1338)])) rfl rfl (hb hby at_232)
    have ch1368 : CHv Z own_EL s.vm h1367 := ch1352.wr W1367 sf1352_b1351
    have cr1368 : CHr Z own_EL s.vm h0 s.vm h1367 := cr1352.trans (CHr.wr W1367 sf1352_b1351 ch1352)
    have sf1368_b1338 : Safe Z own_EL s.vm h1367 b1338 := Safe.wr W1367 sf1352_b1351 ch1352 sf1352_b1338
    have sf1368_b1351 : Safe Z own_EL s.vm h1367 b1351 := Safe.wr W1367 sf1352_b1351 ch1352 sf1352_b1351
    have fa1369 := fa1353.wr W1367 g_b1351
    have fa1370 := fa1354.other W1367 ne_b3_b1351
    have fa1371 := fa1355.other W1367 ne_b30_b1351
    have fa1372 := fa1356.wr W1367
    have fa1373 := fa1357.other W1367 ne_ta1227_b1351
    have fa1374 := fa1358.other W1367 (Or.inl ne_b1169_b1351)
    have fa1375 := fa1359.other W1367 (Or.inl ne_b1169_b1351)
    have fa1376 := fa1360.wr W1367
    have fa1377 := fa1361.other W1367 (Or.inl ne_b1338_b1351)
    have fa1378 := fa1362.other W1367 (Or.inl ne_b1338_b1351)
    have z1379 : n0 ≤ h1367.size := Nat.le_trans z1363 (Nat.le_of_eq W1367.size.symm)
    have hk := Nat.le_trans hk (Nat.le_of_eq W1367.size.symm)
    have kp1380 : Keep h0 h1367 [] := kp1364.wr W1367 (Or.inr sz_b1351)
    have fa1381 : Arv Z h1367 b1351 k1351 .char (1 : Int32) [(.int (nar .char d0))] (.int (0 : Int32)) := Arv.set Ar1366 q1366 S1366 M1366 H1366 G1366 (fits_nar_char _) W1367 0 rfl (Nat.le_of_ble_eq_true rfl)
    have N1367 := Fr.snoc X1367 N1227 g_b1351
    have fa1382 : Arv Z h1367 b1351 k1351 .char (1 : Int32) [(.int d0)] (.int (0 : Int32)) := by have q := fa1381; rw [own_narc d0 hb_d0] at q; exact q
    have G1383 : ∀ t, Steps p.tables e below (T1367.setTop (mkF m 233 #[iv p0, iv p1, iv c0, iv c1, iv c2, iv 3, iv d0, iv d1, iv d2, iv 1, rv b3, rv b30, rv b1169, .unset, .unset, .unset] [(.ref b1351), (.ref b1338), (.ref b1338)])) t → Steps p.tables e below (s₁.setTop (entryFrame m #[(.int p0), (.int p1)] maxLocals)) t := by
     intro t kt
     refine G1337 _ ?_
     refine XS.icmpNo X1227.here hx rfl (hb hby at_218) rfl (teq (by decide)).2 ?_
     refine st1338 _ ?_
     refine XS.dup X1338.here hx rfl (hb hby at_224) rfl rfl ?_
     refine XS.iconst X1338.here hx rfl (hb hby at_225) ?_
     refine st1351 _ ?_
     refine XS.dup X1351.here hx rfl (hb hby at_228) rfl rfl ?_
     refine XS.iconst X1351.here hx rfl (hb hby at_229) ?_
     refine XS.iload X1351.here hx rfl (hb hby at_230) rfl ?_
     refine st1367 _ ?_
     exact kt
    obtain ⟨_, _, ⟨T1384, L1384, k1384, n1384⟩, -, X1384, ⟨Lc1384, hQ1384, l1384, y1384, z1384⟩, st1384⟩ := X1367.specialBack hx (y := (⟨"java/lang/String", "<init>", "([C)V"⟩ : MethodName)) rfl hown (mvT hZ (hq hw 4 rfl)) (mvT hZ (hq hw 5 rfl)) (mvT hZ (hq hw 6 rfl)) (by decide) (backOf (W := 1) (rmSF_1 l Z a0 hw [] b1338 b1351 d0 k1351 cst fv h1367 n0 z1379 fa1376 fa1378 fa1377 fa1382 fa1369 g_b1338 ne_b1338_b1351 hb_d0 hp_d0 SS) hZ (hq hw 6 rfl) (hq hw 3 rfl) (by decide) (by decide)) (g := (mkF m 233 #[iv p0, iv p1, iv c0, iv c1, iv c2, iv 3, iv d0, iv d1, iv d2, iv 1, rv b3, rv b30, rv b1169, .unset, .unset, .unset] [(.ref b1351), (.ref b1338), (.ref b1338)])) rfl (by rw [hml]; rfl) (Steps.refl _) (a := b1338) (argsL := [(.ref b1351)]) (rest := [(.ref b1338)]) (lenOf pd_26 rfl) rfl (by show 2 * 0 + _ ≤ _; exact Nat.le_of_eq rfl) (hb hby at_233) (fun _ _ => ⟨rfl, e1367, (by decide : 7 + 1 ≤ _), (by decide : 21 + 1 ≤ _)⟩)
    dsimp only [Pt.U, Pt.locs, Pt.cells, Pt.slots] at X1384 l1384 y1384 z1384 st1384 hQ1384
    subst l1384 y1384 z1384
    rcases hQ1384 with ⟨rfl, N1384q, K1384, A1384, hq1384, Fc1384, ta1384, kb1384, Fv1384, sz1384, g_ta1384, V1384⟩
    ·skip
     have N1384 := Fr.app N1367 N1384q
     have szk1384 : h0.size ≤ ta1384 := Nat.le_trans kp1380.1 sz1384
     have ne_b3_ta1384 : b3 ≠ ta1384 := Nat.ne_of_lt (Nat.lt_of_lt_of_le fa1370.lt sz1384)
     have ne_b30_ta1384 : b30 ≠ ta1384 := Nat.ne_of_lt (Nat.lt_of_lt_of_le fa1371.lt sz1384)
     have ne_b1169_ta1384 : b1169 ≠ ta1384 := Nat.ne_of_lt (Nat.lt_of_lt_of_le fa1372.lt sz1384)
     have ne_ta1227_ta1384 : ta1227 ≠ ta1384 := Nat.ne_of_lt (Nat.lt_of_lt_of_le fa1373.lt sz1384)
     have ne_b1338_ta1384 : b1338 ≠ ta1384 := Nat.ne_of_lt (Nat.lt_of_lt_of_le fa1376.lt sz1384)
     have ne_b1351_ta1384 : b1351 ≠ ta1384 := Nat.ne_of_lt (Nat.lt_of_lt_of_le fa1382.lt sz1384)
     have ch1385 : CHv Z own_EL s.vm T1384.heap := ch1368.keep K1384 (allS sf1368_b1338 all0)
     have cr1385 : CHr Z own_EL s.vm h0 s.vm T1384.heap := cr1368.trans (CHr.keep K1384 (allS sf1368_b1338 all0) ch1368)
     have sf1385_b1338 : Safe Z own_EL s.vm T1384.heap b1338 := Safe.keep K1384 (allS sf1368_b1338 all0) ch1368 sf1368_b1338
     have sf1385_b1351 : Safe Z own_EL s.vm T1384.heap b1351 := Safe.keep K1384 (allS sf1368_b1338 all0) ch1368 sf1368_b1351
     have fa1386 := fa1369.keep K1384 (allS g_b1338 all0)
     have fa1387 := fa1370.keep K1384 (ninS ne_b3_b1338 nin0)
     have fa1388 := fa1371.keep K1384 (ninS ne_b30_b1338 nin0)
     have fa1389 := fa1372.keep K1384
     have fa1390 := fa1373.keep K1384 (ninS ne_ta1227_b1338 nin0)
     have fa1391 := fa1374.keep K1384 (ninS ne_b1169_b1338 nin0)
     have fa1392 := fa1375.keep K1384 (ninS ne_b1169_b1338 nin0)
     have fa1393 := fa1376.keep K1384
     have fa1394 := fa1382.keep K1384 (ninS (Ne.symm ne_b1338_b1351) nin0)
     have z1395 : n0 ≤ T1384.heap.size := Nat.le_trans z1379 K1384.1
     have hk := Nat.le_trans hk K1384.1
     have kp1396 : Keep h0 T1384.heap [] := kp1380.trans K1384 (allS (Or.inr sz_b1338) all0)
     obtain ⟨T1397, h1397, X1397, e1397, E1397, A1397, D1397, -, st1397⟩ := newO X1384 hx hZ hown (hq hw 33 rfl) (hq hw 34 rfl) (hq hw 35 rfl) rfl (g := (mkF m 299 #[iv p0, iv p1, iv c0, iv c1, iv c2, iv 3, iv d0, iv d1, iv d2, iv 1, rv b3, rv b30, rv b1169, rv b1338, .unset, .unset] [])) rfl (hb hby at_299) (by decide) (by decide)
     obtain ⟨b1397, g1397⟩ : ∃ z, z = T1384.heap.size := ⟨_, rfl⟩
     rw [← g1397] at A1397 D1397 st1397
     have g_b1397 : n0 ≤ b1397 := Nat.le_trans z1395 (Nat.le_of_eq g1397.symm)
     have sz_b1397 : h0.size ≤ b1397 := Nat.le_trans kp1396.1 (Nat.le_of_eq g1397.symm)
     have ne_b3_b1397 : b3 ≠ b1397 := Nat.ne_of_lt (Nat.lt_of_lt_of_le fa1387.lt (Nat.le_of_eq g1397.symm))
     have ne_b30_b1397 : b30 ≠ b1397 := Nat.ne_of_lt (Nat.lt_of_lt_of_le fa1388.lt (Nat.le_of_eq g1397.symm))
     have ne_b1169_b1397 : b1169 ≠ b1397 := Nat.ne_of_lt (Nat.lt_of_lt_of_le fa1389.lt (Nat.le_of_eq g1397.symm))
     have ne_ta1227_b1397 : ta1227 ≠ b1397 := Nat.ne_of_lt (Nat.lt_of_lt_of_le fa1390.lt (Nat.le_of_eq g1397.symm))
     have ne_b1338_b1397 : b1338 ≠ b1397 := Nat.ne_of_lt (Nat.lt_of_lt_of_le A1384.lt (Nat.le_of_eq g1397.symm))
     have ne_ta1384_b1397 : ta1384 ≠ b1397 := Nat.ne_of_lt (Nat.lt_of_lt_of_le V1384.lt (Nat.le_of_eq g1397.symm))
     have ch1398 : CHv Z own_EL s.vm h1397 := ch1385.ext E1397
     have cr1398 : CHr Z own_EL s.vm h0 s.vm h1397 := cr1385.trans (CHr.ext E1397 ch1385)
     have sf1398_b1397 : Safe Z own_EL s.vm h1397 b1397 := Safe.ext E1397 ch1385 (Safe.new (Nat.le_of_eq g1397.symm))
     have fa1399 := fa1386.ext E1397
     have fa1400 := fa1387.ext E1397
     have fa1401 := fa1388.ext E1397
     have fa1402 := fa1389.ext E1397
     have fa1403 := fa1390.ext E1397
     have fa1404 := fa1391.ext E1397
     have fa1405 := fa1392.ext E1397
     have fa1406 := A1384.ext E1397
     have fa1407 := V1384.ext E1397
     have fa1408 := Fc1384.ext E1397
     have fa1409 := Fv1384.ext E1397
     have z1410 : n0 ≤ h1397.size := Nat.le_trans z1395 E1397.1
     have hk := Nat.le_trans hk E1397.1
     have kp1411 : Keep h0 h1397 [] := kp1396.ext E1397
     have fa1412 : Fld Z h1397 b1397 "com/example/fides/fides/RecordId" "table" "Ljava/lang/String;" .null := D1397 (Or.inr (hq hw 57 rfl)) (ty := (.object "java/lang/String")) (by decide)
     have fa1413 : Fld Z h1397 b1397 "com/example/fides/fides/RecordId" "key" "Ljava/lang/String;" .null := D1397 (Or.inr (hq hw 59 rfl)) (ty := (.object "java/lang/String")) (by decide)
     have G1414 : ∀ t, Steps p.tables e below (T1397.setTop (mkF m 307 #[iv p0, iv p1, iv c0, iv c1, iv c2, iv 3, iv d0, iv d1, iv d2, iv 1, rv b3, rv b30, rv b1169, rv b1338, .unset, .unset] [(.ref b1338), (.ref b1169), (.ref b1397), (.ref b1397)])) t → Steps p.tables e below (s₁.setTop (entryFrame m #[(.int p0), (.int p1)] maxLocals)) t := by
      intro t kt
      refine G1383 _ ?_
      refine st1384.trans ?_
      refine XS.astore X1384.here hx rfl (hb hby at_236) rfl rfl (l' := #[iv p0, iv p1, iv c0, iv c1, iv c2, iv 3, iv d0, iv d1, iv d2, iv 1, rv b3, rv b30, rv b1169, rv b1338, .unset, .unset]) rfl ?_
      show Steps p.tables e below (T1384.setTop (mkF m 238 #[iv p0, iv p1, iv c0, iv c1, iv c2, iv 3, iv d0, iv d1, iv d2, iv 1, rv b3, rv b30, rv b1169, rv b1338, .unset, .unset] [])) _
      refine XS.goto X1384.here hx rfl (pc0 := 238) (pc' := 299) rfl (hb hby at_238) (by decide) (by decide) ?_
      refine st1397 _ ?_
      refine XS.dup X1397.here hx rfl (hb hby at_302) rfl rfl ?_
      refine XS.aload X1397.here hx rfl (hb hby at_303) rfl rfl ?_
      refine XS.aload X1397.here hx rfl (hb hby at_305) rfl rfl ?_
      exact kt
     obtain ⟨_, vm1415, ⟨T1415, L1415, k1415, n1415⟩, -, X1415, hS1415, gr1415, ⟨Lc1415, hQ1415, l1415, y1415, z1415, C1415⟩, st1415⟩ := X1397.specialBackS hx (y := (⟨"com/example/fides/fides/RecordId", "<init>", "(Ljava/lang/String;Ljava/lang/String;)V"⟩ : MethodName)) rfl hown (mvT hZ (hq hw 36 rfl)) (mvT hZ (hq hw 37 rfl)) (mvT hZ (hq hw 38 rfl)) (by decide) (backOfSH (s := s) (vm0 := s.vm) (W := 1) (rm7 l Z a0 hw [] b1397 b1169 b1338 ta1227 kb1227 (3 : Int32) [(.int (nar .byte (c0.toInt8.toInt32))), (.int (nar .byte (c1.toInt8.toInt32))), (.int (nar .byte (c2.toInt8.toInt32)))] h1397 n0 z1410 A1397 fa1412 fa1413 fa1402 fa1405 fa1403 g_b1397 (Ne.symm ne_b1169_b1397) (Ne.symm ne_ta1227_b1397) (by decide)) hZ (hq hw 38 rfl) (hq hw 35 rfl) (by decide) (by decide) hEL ch1398) (g := (mkF m 307 #[iv p0, iv p1, iv c0, iv c1, iv c2, iv 3, iv d0, iv d1, iv d2, iv 1, rv b3, rv b30, rv b1169, rv b1338, .unset, .unset] [(.ref b1338), (.ref b1169), (.ref b1397), (.ref b1397)])) rfl (by rw [hml]; rfl) (Steps.refl _) (a := b1397) (argsL := [(.ref b1169), (.ref b1338)]) (rest := [(.ref b1397)]) (lenOf pd_27 rfl) rfl (by show 2 * 0 + _ ≤ _; exact Nat.le_of_eq rfl) (hb hby at_307) (fun _ _ => ⟨rfl, e1397, (by decide : 9 + 4 ≤ _), (by decide : 24 + 40 ≤ _)⟩)
     dsimp only [Pt.U, Pt.locs, Pt.cells, Pt.slots] at X1415 l1415 y1415 z1415 st1415 hQ1415 hS1415 gr1415 C1415
     subst l1415 y1415 z1415
     have hS := hS.trans hS1415 (Nat.le_trans hk (by rw [← show T1397.heap = h1397 from e1397]; exact gr1415))
     have hZ : Z.Warmed39 (s.setVm T1415.vm).vm := State.Warmed39.trans hZ hS1415.1
     have hown : (s.setVm T1415.vm).vm.findClass "com/example/fides/fides/RecordIdToStringPinLaw" = some m.cls := by rw [show (s.setVm T1415.vm).vm = T1415.vm from rfl, hS1415.1.alike.findClass]; exact hown
     have X1415 : Stand p l e room_1 (s.setVm T1415.vm) m #[(.int p0), (.int p1)] below meth c T1415 _ _ _ := X1415
     have hk : T1415.heap.size ≤ T1415.heap.size := Nat.le_refl _
     have cr1416 := cr1398.trans C1415
     have ch1416 := C1415.1
     have sf1416_b1397 := C1415.safe A1397.lt sf1398_b1397
     obtain ⟨rfl, N1415q, K1415, Ft1415, Fk1415⟩ := hQ1415
     have N1415 := Fr.app N1384 N1415q
     have fa1417 := fa1399.keep K1415 (allS g_b1397 all0)
     have fa1418 := fa1400.keep K1415 (ninS ne_b3_b1397 nin0)
     have fa1419 := fa1401.keep K1415 (ninS ne_b30_b1397 nin0)
     have fa1420 := fa1402.keep K1415
     have fa1421 := fa1403.keep K1415 (ninS ne_ta1227_b1397 nin0)
     have fa1422 := fa1404.keep K1415 (ninS ne_b1169_b1397 nin0)
     have fa1423 := fa1405.keep K1415 (ninS ne_b1169_b1397 nin0)
     have fa1424 := fa1406.keep K1415
     have fa1425 := fa1407.keep K1415 (ninS ne_ta1384_b1397 nin0)
     have fa1426 := fa1408.keep K1415 (ninS ne_b1338_b1397 nin0)
     have fa1427 := fa1409.keep K1415 (ninS ne_b1338_b1397 nin0)
     have fa1428 := A1397.keep K1415
     have z1429 : n0 ≤ T1415.heap.size := Nat.le_trans z1410 K1415.1
     have kp1430 : Keep h0 T1415.heap [] := kp1411.trans K1415 (allS (Or.inr sz_b1397) all0)
     have G1431 : ∀ t, Steps p.tables e below (T1415.setTop (mkF m 310 #[iv p0, iv p1, iv c0, iv c1, iv c2, iv 3, iv d0, iv d1, iv d2, iv 1, rv b3, rv b30, rv b1169, rv b1338, .unset, .unset] [(.ref b1397)])) t → Steps p.tables e below (s₁.setTop (entryFrame m #[(.int p0), (.int p1)] maxLocals)) t := by
      intro t kt
      refine G1414 _ ?_
      refine st1415.trans ?_
      exact kt
     obtain ⟨cq1432, kq1432, q1432a, q1432b, q1432c⟩ := isOf hZ rfl fa1428
     obtain ⟨_, vm1432, ⟨T1432, L1432, k1432, n1432⟩, -, X1432, hS1432, gr1432, ⟨Lc1432, hQ1432, l1432, y1432, z1432, C1432⟩, st1432⟩ := X1415.virtualBackS hx (y := (⟨"com/example/fides/fides/RecordId", "toString", "()Ljava/lang/String;"⟩ : MethodName)) (z := (⟨"com/example/fides/fides/RecordId", "toString", "()Ljava/lang/String;"⟩ : MethodName)) hown (mvT hZ (hq hw 60 rfl)) (mvT hZ (hq hw 61 rfl)) (notFace_of_selects (args := #[]) (mvT hZ (hq hw 63 rfl))) (mvT hZ (hq hw 63 rfl)) (mvT hZ (hq hw 62 rfl)) (by decide) (backOfSH (s := s) (vm0 := T1415.vm) (W := 0) (rm11 l Z a0 hw [] b1397 b1169 ta1227 kb1227 (3 : Int32) [(.int (nar .byte (c0.toInt8.toInt32))), (.int (nar .byte (c1.toInt8.toInt32))), (.int (nar .byte (c2.toInt8.toInt32)))] b1338 ta1384 kb1384 (1 : Int32) [(.int (nar .byte (d0.toInt8.toInt32)))] (5 : Int32) [(.int (nar .byte (c0.toInt8.toInt32))), (.int (nar .byte (c1.toInt8.toInt32))), (.int (nar .byte (c2.toInt8.toInt32))), (.int (47 : Int32)), (.int (nar .byte (d0.toInt8.toInt32)))] cst fv T1415.heap n0 z1429 Ft1415 Fk1415 fa1420 fa1422 fa1423 fa1421 fa1424 fa1426 fa1427 fa1425 fa1417 (by decide) (own_mkok (by decide) (by decide) (by decide) (by decide) (Nat.le_of_ble_eq_true rfl)) (by decide) (own_mkok (by decide) (by decide) (by decide) (by decide) (Nat.le_of_ble_eq_true rfl)) (by decide) (own_mkok (by decide) (by decide) (by decide) (by decide) (Nat.le_of_ble_eq_true rfl)) (own_cr5) (by decide) rfl SS) hZ (hq hw 64 rfl) (hq hw 35 rfl) (by decide) (by decide) hEL ch1416) q1432a q1432c (g := (mkF m 310 #[iv p0, iv p1, iv c0, iv c1, iv c2, iv 3, iv d0, iv d1, iv d2, iv 1, rv b3, rv b30, rv b1169, rv b1338, .unset, .unset] [(.ref b1397)])) rfl (by rw [hml]; rfl) (Steps.refl _) (argsL := []) (rest := []) (lenOf pd_23 rfl) rfl (by show 2 * 0 + _ ≤ _; exact Nat.le_of_eq rfl) (hb hby at_310) (fun _ _ => ⟨rfl, rfl, (by decide : 13 + 6 ≤ _), (by decide : 64 + 40 ≤ _)⟩)
     dsimp only [Pt.U, Pt.locs, Pt.cells, Pt.slots] at X1432 l1432 y1432 z1432 st1432 hQ1432 hS1432 gr1432 C1432
     subst l1432 y1432 z1432
     have hS := hS.trans hS1432 (Nat.le_trans hk (by rw [← show T1415.heap = T1415.heap from rfl]; exact gr1432))
     have hZ : Z.Warmed39 (s.setVm T1432.vm).vm := State.Warmed39.trans hZ hS1432.1
     have hown : (s.setVm T1432.vm).vm.findClass "com/example/fides/fides/RecordIdToStringPinLaw" = some m.cls := by rw [show (s.setVm T1432.vm).vm = T1432.vm from rfl, hS1432.1.alike.findClass]; exact hown
     have X1432 : Stand p l e room_1 (s.setVm T1432.vm) m #[(.int p0), (.int p1)] below meth c T1432 _ _ _ := X1432
     have hk : T1432.heap.size ≤ T1432.heap.size := Nat.le_refl _
     have cr1433 := cr1416.trans C1432
     have ch1433 := C1432.1
     have sf1433_b1397 := C1432.safe fa1428.lt sf1416_b1397
     obtain ⟨s1432, t1432, kb1432, rfl, N1432q, K1432, A1432, Fc1432, Fv1432, V1432⟩ := hQ1432
     have N1432 := Fr.app N1415 N1432q
     have fa1434 := fa1417.keep K1432 all0
     have fa1435 := fa1418.keep K1432 nin0
     have fa1436 := fa1419.keep K1432 nin0
     have fa1437 := fa1420.keep K1432
     have fa1438 := fa1421.keep K1432 nin0
     have fa1439 := fa1422.keep K1432 nin0
     have fa1440 := fa1423.keep K1432 nin0
     have fa1441 := fa1424.keep K1432
     have fa1442 := fa1425.keep K1432 nin0
     have fa1443 := fa1426.keep K1432 nin0
     have fa1444 := fa1427.keep K1432 nin0
     have fa1445 := fa1428.keep K1432
     have fa1446 := Ft1415.keep K1432 nin0
     have fa1447 := Fk1415.keep K1432 nin0
     have z1448 : n0 ≤ T1432.heap.size := Nat.le_trans z1429 K1432.1
     have kp1449 : Keep h0 T1432.heap [] := kp1430.trans K1432 all0
     have G1450 : ∀ t, Steps p.tables e below (T1432.setTop (mkF m 324 #[iv p0, iv p1, iv c0, iv c1, iv c2, iv 3, iv d0, iv d1, iv d2, iv 1, rv b3, rv b30, rv b1169, rv b1338, rv s1432, iv 5] [])) t → Steps p.tables e below (s₁.setTop (entryFrame m #[(.int p0), (.int p1)] maxLocals)) t := by
      intro t kt
      refine G1431 _ ?_
      refine st1432.trans ?_
      refine XS.astore X1432.here hx rfl (hb hby at_313) rfl rfl (l' := #[iv p0, iv p1, iv c0, iv c1, iv c2, iv 3, iv d0, iv d1, iv d2, iv 1, rv b3, rv b30, rv b1169, rv b1338, rv s1432, .unset]) rfl ?_
      refine XS.iload X1432.here hx rfl (hb hby at_315) rfl ?_
      refine XS.iconst X1432.here hx rfl (hb hby at_317) ?_
      refine XS.iadd X1432.here hx rfl (hb hby at_318) rfl ?_
      refine XS.iload X1432.here hx rfl (hb hby at_319) rfl ?_
      refine XS.iadd X1432.here hx rfl (hb hby at_321) rfl ?_
      refine XS.istore X1432.here hx rfl (hb hby at_322) rfl (l' := #[iv p0, iv p1, iv c0, iv c1, iv c2, iv 3, iv d0, iv d1, iv d2, iv 1, rv b3, rv b30, rv b1169, rv b1338, rv s1432, iv 5]) rfl ?_
      exact kt
     obtain ⟨T1451, L1451, X1451, e1451, N1451, K1451⟩ := own_tail (l := l) (Z := Z) (a0 := a0) (iv p0) (iv p1) (iv c0) (iv c1) (iv c2) (iv d0) (iv d1) (iv d2) (iv 1) (rv b1169) (rv b1338) (3 : Int32) (5 : Int32) b3 b30 s1432 t1432 kb1432 (5 : Int32) [(.int (nar .byte (c0.toInt8.toInt32))), (.int (nar .byte (c1.toInt8.toInt32))), (.int (nar .byte (c2.toInt8.toInt32))), (.int (47 : Int32)), (.int (nar .byte (d0.toInt8.toInt32)))] k3 (3 : Int32) [(.int c0), (.int c1), (.int c2)] k30 (3 : Int32) [(.int d0), (.int d1), (.int d2)] cst fv X1432 hx hZ hw hby hml hown rfl N1432 z1448 A1432 Fc1432 Fv1432 V1432 fa1435 fa1436 fa1434 (by decide) (by decide) (by decide) (own_atT (xx := (nar .byte (c0.toInt8.toInt32))) (cc := c0) (by decide) (by decide) (by decide) rfl (own_lat c0 hb_c0 hp_c0) (by decide) rfl (by decide)) (own_atT (xx := (nar .byte (c1.toInt8.toInt32))) (cc := c1) (by decide) (by decide) (by decide) rfl (own_lat c1 hb_c1 hp_c1) (by decide) rfl (by decide)) (own_atT (xx := (nar .byte (c2.toInt8.toInt32))) (cc := c2) (by decide) (by decide) (by decide) rfl (own_lat c2 hb_c2 hp_c2) (by decide) rfl (by decide)) (own_atM (xx := (47 : Int32)) (by decide) (by decide) (by decide) rfl (by decide) (by decide) (by decide)) (own_atK (xx := (nar .byte (d0.toInt8.toInt32))) (cc := d0) (by decide) (by decide) (by decide) rfl (own_lat d0 hb_d0 hp_d0) (by decide) rfl (by decide) (by decide)) (own_atD (by decide)) (own_atD (by decide)) SS
     have G1452 : ∀ t, Steps p.tables e below (T1451.setTop (mkF m 461 #[iv p0, iv p1, iv c0, iv c1, iv c2, iv 3, iv d0, iv d1, iv d2, iv 1, rv b3, rv b30, rv b1169, rv b1338, rv s1432, iv 5] [])) t → Steps p.tables e below (s₁.setTop (entryFrame m #[(.int p0), (.int p1)] maxLocals)) t := fun t kt => G1450 t (K1451 t kt)
     obtain ⟨fs, hr, hrun, hended, hRW⟩ := X1451.leaveW (s := s) hS (by rw [show T1451.heap = T1432.heap from e1451]; exact hk) (v := some (.int (1 : Int32))) (fun h => by rw [Bd.returns] at h; cases h) (BodyLoose.notSynchronized Bd)
     refine ⟨_, _, G1452 _ ?_, hrun, hended, _, _, rfl, ?_, hRW.1, hRW.2.1, hRW.2.2.1, hRW.2.2.2.mono (by decide) (by decide)⟩
     ·skip
      refine XS.iconst X1451.here hx rfl (hb hby at_461) ?_
      refine XS.goto X1451.here hx rfl (pc0 := 462) (pc' := 466) rfl (hb hby at_462) (by decide) (by decide) ?_
      exact retN X1451 hx (t := .boolean) Bd.returns (by simp) (hb hby at_466) hr
     ·show Q0 Z p0 p1 cst fv h0 n0 _ T1451.heap _
      rw [e1451]
      exact ⟨rfl, N1451⟩
   ·skip
    have G1453 : ∀ t, Steps p.tables e below (T1227.setTop (mkF m 197 #[iv p0, iv p1, iv c0, iv c1, iv c2, iv 3, iv d0, iv d1, iv d2, iv 2, rv b3, rv b30, rv b1169, .unset, .unset, .unset] [(.int (2 : Int32))])) t → Steps p.tables e below (s₁.setTop (entryFrame m #[(.int p0), (.int p1)] maxLocals)) t := by
     intro t kt
     refine G1236 _ ?_
     refine XS.iload X1227.here hx rfl (hb hby at_195) rfl ?_
     exact kt
    have G1454 : ∀ t, Steps p.tables e below (T1227.setTop (mkF m 218 #[iv p0, iv p1, iv c0, iv c1, iv c2, iv 3, iv d0, iv d1, iv d2, iv 2, rv b3, rv b30, rv b1169, .unset, .unset, .unset] [(.int (1 : Int32)), (.int (2 : Int32))])) t → Steps p.tables e below (s₁.setTop (entryFrame m #[(.int p0), (.int p1)] maxLocals)) t := by
     intro t kt
     refine G1453 _ ?_
     refine XS.ifYes X1227.here hx rfl (pc0 := 197) (pc' := 215) rfl (hb hby at_197) rfl ((if0 _ _).trans (feq (by decide)).2) (by decide) (by decide) ?_
     refine XS.iload X1227.here hx rfl (hb hby at_215) rfl ?_
     refine XS.iconst X1227.here hx rfl (hb hby at_217) ?_
     exact kt
    have G1455 : ∀ t, Steps p.tables e below (T1227.setTop (mkF m 244 #[iv p0, iv p1, iv c0, iv c1, iv c2, iv 3, iv d0, iv d1, iv d2, iv 2, rv b3, rv b30, rv b1169, .unset, .unset, .unset] [(.int (2 : Int32)), (.int (2 : Int32))])) t → Steps p.tables e below (s₁.setTop (entryFrame m #[(.int p0), (.int p1)] maxLocals)) t := by
     intro t kt
     refine G1454 _ ?_
     refine XS.icmpYes X1227.here hx rfl (pc0 := 218) (pc' := 241) rfl (hb hby at_218) rfl (feq (by decide)).2 (by decide) (by decide) ?_
     refine XS.iload X1227.here hx rfl (hb hby at_241) rfl ?_
     refine XS.iconst X1227.here hx rfl (hb hby at_243) ?_
     exact kt
    obtain ⟨T1456, h1456, X1456, e1456, E1456, A1456, D1456, -, st1456⟩ := newO X1227 hx hZ hown (hq hw 1 rfl) (hq hw 2 rfl) (hq hw 3 rfl) rfl (g := (mkF m 247 #[iv p0, iv p1, iv c0, iv c1, iv c2, iv 3, iv d0, iv d1, iv d2, iv 2, rv b3, rv b30, rv b1169, .unset, .unset, .unset] [])) rfl (hb hby at_247) (by decide) (by decide)
    obtain ⟨b1456, g1456⟩ : ∃ z, z = T1227.heap.size := ⟨_, rfl⟩
    rw [← g1456] at A1456 D1456 st1456
    have g_b1456 : n0 ≤ b1456 := Nat.le_trans z1234 (Nat.le_of_eq g1456.symm)
    have sz_b1456 : h0.size ≤ b1456 := Nat.le_trans kp1235.1 (Nat.le_of_eq g1456.symm)
    have ne_b3_b1456 : b3 ≠ b1456 := Nat.ne_of_lt (Nat.lt_of_lt_of_le fa1230.lt (Nat.le_of_eq g1456.symm))
    have ne_b30_b1456 : b30 ≠ b1456 := Nat.ne_of_lt (Nat.lt_of_lt_of_le fa1231.lt (Nat.le_of_eq g1456.symm))
    have ne_b1169_b1456 : b1169 ≠ b1456 := Nat.ne_of_lt (Nat.lt_of_lt_of_le A1227.lt (Nat.le_of_eq g1456.symm))
    have ne_ta1227_b1456 : ta1227 ≠ b1456 := Nat.ne_of_lt (Nat.lt_of_lt_of_le V1227.lt (Nat.le_of_eq g1456.symm))
    have ch1457 : CHv Z own_EL s.vm h1456 := ch1228.ext E1456
    have cr1457 : CHr Z own_EL s.vm h0 s.vm h1456 := cr1228.trans (CHr.ext E1456 ch1228)
    have sf1457_b1456 : Safe Z own_EL s.vm h1456 b1456 := Safe.ext E1456 ch1228 (Safe.new (Nat.le_of_eq g1456.symm))
    have fa1458 := fa1229.ext E1456
    have fa1459 := fa1230.ext E1456
    have fa1460 := fa1231.ext E1456
    have fa1461 := A1227.ext E1456
    have fa1462 := V1227.ext E1456
    have fa1463 := Fc1227.ext E1456
    have fa1464 := Fv1227.ext E1456
    have z1465 : n0 ≤ h1456.size := Nat.le_trans z1234 E1456.1
    have hk := Nat.le_trans hk E1456.1
    have kp1466 : Keep h0 h1456 [] := kp1235.ext E1456
    have fa1467 : Fld Z h1456 b1456 "java/lang/String" "coder" "B" (.int (0 : Int32)) := D1456 (Or.inr (hq hw 27 rfl)) (ty := .byte) (by decide)
    have fa1468 : Fld Z h1456 b1456 "java/lang/String" "value" "[B" .null := D1456 (Or.inr (hq hw 29 rfl)) (ty := (.array .byte)) (by decide)
    obtain ⟨T1469, h1469, k1469, X1469, e1469, E1469, A1469, st1469⟩ := newP X1456 hx hZ (hq hw 0 rfl) e1456 (g := (mkF m 252 #[iv p0, iv p1, iv c0, iv c1, iv c2, iv 3, iv d0, iv d1, iv d2, iv 2, rv b3, rv b30, rv b1169, .unset, .unset, .unset] [(.int (2 : Int32)), (.ref b1456), (.ref b1456)])) rfl (hb hby at_252) rfl (by decide) (cap := 2) (by decide) (by decide) (by decide) (by decide)
    obtain ⟨b1469, g1469⟩ : ∃ z, z = h1456.size := ⟨_, rfl⟩
    rw [← g1469] at A1469 st1469
    have g_b1469 : n0 ≤ b1469 := Nat.le_trans z1465 (Nat.le_of_eq g1469.symm)
    have sz_b1469 : h0.size ≤ b1469 := Nat.le_trans kp1466.1 (Nat.le_of_eq g1469.symm)
    have ne_b3_b1469 : b3 ≠ b1469 := Nat.ne_of_lt (Nat.lt_of_lt_of_le fa1459.lt (Nat.le_of_eq g1469.symm))
    have ne_b30_b1469 : b30 ≠ b1469 := Nat.ne_of_lt (Nat.lt_of_lt_of_le fa1460.lt (Nat.le_of_eq g1469.symm))
    have ne_b1169_b1469 : b1169 ≠ b1469 := Nat.ne_of_lt (Nat.lt_of_lt_of_le fa1461.lt (Nat.le_of_eq g1469.symm))
    have ne_ta1227_b1469 : ta1227 ≠ b1469 := Nat.ne_of_lt (Nat.lt_of_lt_of_le fa1462.lt (Nat.le_of_eq g1469.symm))
    have ne_b1456_b1469 : b1456 ≠ b1469 := Nat.ne_of_lt (Nat.lt_of_lt_of_le A1456.lt (Nat.le_of_eq g1469.symm))
    have ch1470 : CHv Z own_EL s.vm h1469 := ch1457.ext E1469
    have cr1470 : CHr Z own_EL s.vm h0 s.vm h1469 := cr1457.trans (CHr.ext E1469 ch1457)
    have sf1470_b1456 : Safe Z own_EL s.vm h1469 b1456 := Safe.ext E1469 ch1457 sf1457_b1456
    have sf1470_b1469 : Safe Z own_EL s.vm h1469 b1469 := Safe.ext E1469 ch1457 (Safe.new (Nat.le_of_eq g1469.symm))
    have fa1471 := fa1458.ext E1469
    have fa1472 := fa1459.ext E1469
    have fa1473 := fa1460.ext E1469
    have fa1474 := fa1461.ext E1469
    have fa1475 := fa1462.ext E1469
    have fa1476 := fa1463.ext E1469
    have fa1477 := fa1464.ext E1469
    have fa1478 := A1456.ext E1469
    have fa1479 := fa1467.ext E1469
    have fa1480 := fa1468.ext E1469
    have z1481 : n0 ≤ h1469.size := Nat.le_trans z1465 E1469.1
    have hk := Nat.le_trans hk E1469.1
    have kp1482 : Keep h0 h1469 [] := kp1466.ext E1469
    have fa1483 : Arv Z h1469 b1469 k1469 .char (2 : Int32) [(.int (0 : Int32)), (.int (0 : Int32))] (.int (0 : Int32)) := (Arv.new A1469 (by decide)).pad (pad_rep [] (.int (0 : Int32)) 2)
    obtain ⟨cl1484, Ar1484, q1484, S1484, M1484, H1484, G1484⟩ := id fa1483
    have hin1484 : ¬ ((0 : Int32) < 0 ∨ cl1484.slots.size ≤ ((0 : Int32)).toNatClampNeg) := inb_of S1484 ⟨by decide, by decide⟩
    obtain ⟨T1485, h1485, X1485, e1485, W1485, st1485⟩ := stC X1469 hx hZ e1469 Ar1484 (j := (0 : Int32)) hin1484 (g := (mkF m 258 #[iv p0, iv p1, iv c0, iv c1, iv c2, iv 3, iv d0, iv d1, iv d2, iv 2, rv b3, rv b30, rv b1169, .unset, .unset, .unset] [(.int d0), (.int (0 : Int32)), (.ref b1469), (.ref b1469), (.ref b1456), (.ref b1456)])) rfl rfl (hb hby at_258)
    have ch1486 : CHv Z own_EL s.vm h1485 := ch1470.wr W1485 sf1470_b1469
    have cr1486 : CHr Z own_EL s.vm h0 s.vm h1485 := cr1470.trans (CHr.wr W1485 sf1470_b1469 ch1470)
    have sf1486_b1456 : Safe Z own_EL s.vm h1485 b1456 := Safe.wr W1485 sf1470_b1469 ch1470 sf1470_b1456
    have sf1486_b1469 : Safe Z own_EL s.vm h1485 b1469 := Safe.wr W1485 sf1470_b1469 ch1470 sf1470_b1469
    have fa1487 := fa1471.wr W1485 g_b1469
    have fa1488 := fa1472.other W1485 ne_b3_b1469
    have fa1489 := fa1473.other W1485 ne_b30_b1469
    have fa1490 := fa1474.wr W1485
    have fa1491 := fa1475.other W1485 ne_ta1227_b1469
    have fa1492 := fa1476.other W1485 (Or.inl ne_b1169_b1469)
    have fa1493 := fa1477.other W1485 (Or.inl ne_b1169_b1469)
    have fa1494 := fa1478.wr W1485
    have fa1495 := fa1479.other W1485 (Or.inl ne_b1456_b1469)
    have fa1496 := fa1480.other W1485 (Or.inl ne_b1456_b1469)
    have z1497 : n0 ≤ h1485.size := Nat.le_trans z1481 (Nat.le_of_eq W1485.size.symm)
    have hk := Nat.le_trans hk (Nat.le_of_eq W1485.size.symm)
    have kp1498 : Keep h0 h1485 [] := kp1482.wr W1485 (Or.inr sz_b1469)
    have fa1499 : Arv Z h1485 b1469 k1469 .char (2 : Int32) [(.int (nar .char d0)), (.int (0 : Int32))] (.int (0 : Int32)) := Arv.set Ar1484 q1484 S1484 M1484 H1484 G1484 (fits_nar_char _) W1485 0 rfl (Nat.le_of_ble_eq_true rfl)
    have N1485 := Fr.snoc X1485 N1227 g_b1469
    obtain ⟨cl1500, Ar1500, q1500, S1500, M1500, H1500, G1500⟩ := id fa1499
    have hin1500 : ¬ ((1 : Int32) < 0 ∨ cl1500.slots.size ≤ ((1 : Int32)).toNatClampNeg) := inb_of S1500 ⟨by decide, by decide⟩
    obtain ⟨T1501, h1501, X1501, e1501, W1501, st1501⟩ := stC X1485 hx hZ e1485 Ar1500 (j := (1 : Int32)) hin1500 (g := (mkF m 263 #[iv p0, iv p1, iv c0, iv c1, iv c2, iv 3, iv d0, iv d1, iv d2, iv 2, rv b3, rv b30, rv b1169, .unset, .unset, .unset] [(.int d1), (.int (1 : Int32)), (.ref b1469), (.ref b1469), (.ref b1456), (.ref b1456)])) rfl rfl (hb hby at_263)
    have ch1502 : CHv Z own_EL s.vm h1501 := ch1486.wr W1501 sf1486_b1469
    have cr1502 : CHr Z own_EL s.vm h0 s.vm h1501 := cr1486.trans (CHr.wr W1501 sf1486_b1469 ch1486)
    have sf1502_b1456 : Safe Z own_EL s.vm h1501 b1456 := Safe.wr W1501 sf1486_b1469 ch1486 sf1486_b1456
    have sf1502_b1469 : Safe Z own_EL s.vm h1501 b1469 := Safe.wr W1501 sf1486_b1469 ch1486 sf1486_b1469
    have fa1503 := fa1487.wr W1501 g_b1469
    have fa1504 := fa1488.other W1501 ne_b3_b1469
    have fa1505 := fa1489.other W1501 ne_b30_b1469
    have fa1506 := fa1490.wr W1501
    have fa1507 := fa1491.other W1501 ne_ta1227_b1469
    have fa1508 := fa1492.other W1501 (Or.inl ne_b1169_b1469)
    have fa1509 := fa1493.other W1501 (Or.inl ne_b1169_b1469)
    have fa1510 := fa1494.wr W1501
    have fa1511 := fa1495.other W1501 (Or.inl ne_b1456_b1469)
    have fa1512 := fa1496.other W1501 (Or.inl ne_b1456_b1469)
    have z1513 : n0 ≤ h1501.size := Nat.le_trans z1497 (Nat.le_of_eq W1501.size.symm)
    have hk := Nat.le_trans hk (Nat.le_of_eq W1501.size.symm)
    have kp1514 : Keep h0 h1501 [] := kp1498.wr W1501 (Or.inr sz_b1469)
    have fa1515 : Arv Z h1501 b1469 k1469 .char (2 : Int32) [(.int (nar .char d0)), (.int (nar .char d1))] (.int (0 : Int32)) := Arv.set Ar1500 q1500 S1500 M1500 H1500 G1500 (fits_nar_char _) W1501 1 rfl (Nat.le_of_ble_eq_true rfl)
    have N1501 := Fr.snoc X1501 N1485 g_b1469
    have fa1516 : Arv Z h1501 b1469 k1469 .char (2 : Int32) [(.int d0), (.int d1)] (.int (0 : Int32)) := by have q := fa1515; rw [own_narc d0 hb_d0, own_narc d1 hb_d1] at q; exact q
    have G1517 : ∀ t, Steps p.tables e below (T1501.setTop (mkF m 264 #[iv p0, iv p1, iv c0, iv c1, iv c2, iv 3, iv d0, iv d1, iv d2, iv 2, rv b3, rv b30, rv b1169, .unset, .unset, .unset] [(.ref b1469), (.ref b1456), (.ref b1456)])) t → Steps p.tables e below (s₁.setTop (entryFrame m #[(.int p0), (.int p1)] maxLocals)) t := by
     intro t kt
     refine G1455 _ ?_
     refine XS.icmpNo X1227.here hx rfl (hb hby at_244) rfl (teq (by decide)).2 ?_
     refine st1456 _ ?_
     refine XS.dup X1456.here hx rfl (hb hby at_250) rfl rfl ?_
     refine XS.iconst X1456.here hx rfl (hb hby at_251) ?_
     refine st1469 _ ?_
     refine XS.dup X1469.here hx rfl (hb hby at_254) rfl rfl ?_
     refine XS.iconst X1469.here hx rfl (hb hby at_255) ?_
     refine XS.iload X1469.here hx rfl (hb hby at_256) rfl ?_
     refine st1485 _ ?_
     show Steps p.tables e below (T1485.setTop (mkF m 259 #[iv p0, iv p1, iv c0, iv c1, iv c2, iv 3, iv d0, iv d1, iv d2, iv 2, rv b3, rv b30, rv b1169, .unset, .unset, .unset] [(.ref b1469), (.ref b1456), (.ref b1456)])) _
     refine XS.dup X1485.here hx rfl (hb hby at_259) rfl rfl ?_
     refine XS.iconst X1485.here hx rfl (hb hby at_260) ?_
     refine XS.iload X1485.here hx rfl (hb hby at_261) rfl ?_
     refine st1501 _ ?_
     exact kt
    obtain ⟨_, _, ⟨T1518, L1518, k1518, n1518⟩, -, X1518, ⟨Lc1518, hQ1518, l1518, y1518, z1518⟩, st1518⟩ := X1501.specialBack hx (y := (⟨"java/lang/String", "<init>", "([C)V"⟩ : MethodName)) rfl hown (mvT hZ (hq hw 4 rfl)) (mvT hZ (hq hw 5 rfl)) (mvT hZ (hq hw 6 rfl)) (by decide) (backOf (W := 1) (rmSF_2 l Z a0 hw [] b1456 b1469 d0 d1 k1469 cst fv h1501 n0 z1513 fa1510 fa1512 fa1511 fa1516 fa1503 g_b1456 ne_b1456_b1469 hb_d0 hb_d1 hp_d0 hp_d1 SS) hZ (hq hw 6 rfl) (hq hw 3 rfl) (by decide) (by decide)) (g := (mkF m 264 #[iv p0, iv p1, iv c0, iv c1, iv c2, iv 3, iv d0, iv d1, iv d2, iv 2, rv b3, rv b30, rv b1169, .unset, .unset, .unset] [(.ref b1469), (.ref b1456), (.ref b1456)])) rfl (by rw [hml]; rfl) (Steps.refl _) (a := b1456) (argsL := [(.ref b1469)]) (rest := [(.ref b1456)]) (lenOf pd_26 rfl) rfl (by show 2 * 0 + _ ≤ _; exact Nat.le_of_eq rfl) (hb hby at_264) (fun _ _ => ⟨rfl, e1501, (by decide : 7 + 1 ≤ _), (by decide : 22 + 2 ≤ _)⟩)
    dsimp only [Pt.U, Pt.locs, Pt.cells, Pt.slots] at X1518 l1518 y1518 z1518 st1518 hQ1518
    subst l1518 y1518 z1518
    rcases hQ1518 with ⟨rfl, N1518q, K1518, A1518, hq1518, Fc1518, ta1518, kb1518, Fv1518, sz1518, g_ta1518, V1518⟩
    ·skip
     have N1518 := Fr.app N1501 N1518q
     have szk1518 : h0.size ≤ ta1518 := Nat.le_trans kp1514.1 sz1518
     have ne_b3_ta1518 : b3 ≠ ta1518 := Nat.ne_of_lt (Nat.lt_of_lt_of_le fa1504.lt sz1518)
     have ne_b30_ta1518 : b30 ≠ ta1518 := Nat.ne_of_lt (Nat.lt_of_lt_of_le fa1505.lt sz1518)
     have ne_b1169_ta1518 : b1169 ≠ ta1518 := Nat.ne_of_lt (Nat.lt_of_lt_of_le fa1506.lt sz1518)
     have ne_ta1227_ta1518 : ta1227 ≠ ta1518 := Nat.ne_of_lt (Nat.lt_of_lt_of_le fa1507.lt sz1518)
     have ne_b1456_ta1518 : b1456 ≠ ta1518 := Nat.ne_of_lt (Nat.lt_of_lt_of_le fa1510.lt sz1518)
     have ne_b1469_ta1518 : b1469 ≠ ta1518 := Nat.ne_of_lt (Nat.lt_of_lt_of_le fa1516.lt sz1518)
     have ch1519 : CHv Z own_EL s.vm T1518.heap := ch1502.keep K1518 (allS sf1502_b1456 all0)
     have cr1519 : CHr Z own_EL s.vm h0 s.vm T1518.heap := cr1502.trans (CHr.keep K1518 (allS sf1502_b1456 all0) ch1502)
     have sf1519_b1456 : Safe Z own_EL s.vm T1518.heap b1456 := Safe.keep K1518 (allS sf1502_b1456 all0) ch1502 sf1502_b1456
     have sf1519_b1469 : Safe Z own_EL s.vm T1518.heap b1469 := Safe.keep K1518 (allS sf1502_b1456 all0) ch1502 sf1502_b1469
     have fa1520 := fa1503.keep K1518 (allS g_b1456 all0)
     have fa1521 := fa1504.keep K1518 (ninS ne_b3_b1456 nin0)
     have fa1522 := fa1505.keep K1518 (ninS ne_b30_b1456 nin0)
     have fa1523 := fa1506.keep K1518
     have fa1524 := fa1507.keep K1518 (ninS ne_ta1227_b1456 nin0)
     have fa1525 := fa1508.keep K1518 (ninS ne_b1169_b1456 nin0)
     have fa1526 := fa1509.keep K1518 (ninS ne_b1169_b1456 nin0)
     have fa1527 := fa1510.keep K1518
     have fa1528 := fa1516.keep K1518 (ninS (Ne.symm ne_b1456_b1469) nin0)
     have z1529 : n0 ≤ T1518.heap.size := Nat.le_trans z1513 K1518.1
     have hk := Nat.le_trans hk K1518.1
     have kp1530 : Keep h0 T1518.heap [] := kp1514.trans K1518 (allS (Or.inr sz_b1456) all0)
     obtain ⟨T1531, h1531, X1531, e1531, E1531, A1531, D1531, -, st1531⟩ := newO X1518 hx hZ hown (hq hw 33 rfl) (hq hw 34 rfl) (hq hw 35 rfl) rfl (g := (mkF m 299 #[iv p0, iv p1, iv c0, iv c1, iv c2, iv 3, iv d0, iv d1, iv d2, iv 2, rv b3, rv b30, rv b1169, rv b1456, .unset, .unset] [])) rfl (hb hby at_299) (by decide) (by decide)
     obtain ⟨b1531, g1531⟩ : ∃ z, z = T1518.heap.size := ⟨_, rfl⟩
     rw [← g1531] at A1531 D1531 st1531
     have g_b1531 : n0 ≤ b1531 := Nat.le_trans z1529 (Nat.le_of_eq g1531.symm)
     have sz_b1531 : h0.size ≤ b1531 := Nat.le_trans kp1530.1 (Nat.le_of_eq g1531.symm)
     have ne_b3_b1531 : b3 ≠ b1531 := Nat.ne_of_lt (Nat.lt_of_lt_of_le fa1521.lt (Nat.le_of_eq g1531.symm))
     have ne_b30_b1531 : b30 ≠ b1531 := Nat.ne_of_lt (Nat.lt_of_lt_of_le fa1522.lt (Nat.le_of_eq g1531.symm))
     have ne_b1169_b1531 : b1169 ≠ b1531 := Nat.ne_of_lt (Nat.lt_of_lt_of_le fa1523.lt (Nat.le_of_eq g1531.symm))
     have ne_ta1227_b1531 : ta1227 ≠ b1531 := Nat.ne_of_lt (Nat.lt_of_lt_of_le fa1524.lt (Nat.le_of_eq g1531.symm))
     have ne_b1456_b1531 : b1456 ≠ b1531 := Nat.ne_of_lt (Nat.lt_of_lt_of_le A1518.lt (Nat.le_of_eq g1531.symm))
     have ne_ta1518_b1531 : ta1518 ≠ b1531 := Nat.ne_of_lt (Nat.lt_of_lt_of_le V1518.lt (Nat.le_of_eq g1531.symm))
     have ch1532 : CHv Z own_EL s.vm h1531 := ch1519.ext E1531
     have cr1532 : CHr Z own_EL s.vm h0 s.vm h1531 := cr1519.trans (CHr.ext E1531 ch1519)
     have sf1532_b1531 : Safe Z own_EL s.vm h1531 b1531 := Safe.ext E1531 ch1519 (Safe.new (Nat.le_of_eq g1531.symm))
     have fa1533 := fa1520.ext E1531
     have fa1534 := fa1521.ext E1531
     have fa1535 := fa1522.ext E1531
     have fa1536 := fa1523.ext E1531
     have fa1537 := fa1524.ext E1531
     have fa1538 := fa1525.ext E1531
     have fa1539 := fa1526.ext E1531
     have fa1540 := A1518.ext E1531
     have fa1541 := V1518.ext E1531
     have fa1542 := Fc1518.ext E1531
     have fa1543 := Fv1518.ext E1531
     have z1544 : n0 ≤ h1531.size := Nat.le_trans z1529 E1531.1
     have hk := Nat.le_trans hk E1531.1
     have kp1545 : Keep h0 h1531 [] := kp1530.ext E1531
     have fa1546 : Fld Z h1531 b1531 "com/example/fides/fides/RecordId" "table" "Ljava/lang/String;" .null := D1531 (Or.inr (hq hw 57 rfl)) (ty := (.object "java/lang/String")) (by decide)
     have fa1547 : Fld Z h1531 b1531 "com/example/fides/fides/RecordId" "key" "Ljava/lang/String;" .null := D1531 (Or.inr (hq hw 59 rfl)) (ty := (.object "java/lang/String")) (by decide)
     have G1548 : ∀ t, Steps p.tables e below (T1531.setTop (mkF m 307 #[iv p0, iv p1, iv c0, iv c1, iv c2, iv 3, iv d0, iv d1, iv d2, iv 2, rv b3, rv b30, rv b1169, rv b1456, .unset, .unset] [(.ref b1456), (.ref b1169), (.ref b1531), (.ref b1531)])) t → Steps p.tables e below (s₁.setTop (entryFrame m #[(.int p0), (.int p1)] maxLocals)) t := by
      intro t kt
      refine G1517 _ ?_
      refine st1518.trans ?_
      refine XS.astore X1518.here hx rfl (hb hby at_267) rfl rfl (l' := #[iv p0, iv p1, iv c0, iv c1, iv c2, iv 3, iv d0, iv d1, iv d2, iv 2, rv b3, rv b30, rv b1169, rv b1456, .unset, .unset]) rfl ?_
      refine XS.goto X1518.here hx rfl (pc0 := 269) (pc' := 299) rfl (hb hby at_269) (by decide) (by decide) ?_
      refine st1531 _ ?_
      refine XS.dup X1531.here hx rfl (hb hby at_302) rfl rfl ?_
      refine XS.aload X1531.here hx rfl (hb hby at_303) rfl rfl ?_
      refine XS.aload X1531.here hx rfl (hb hby at_305) rfl rfl ?_
      exact kt
     obtain ⟨_, vm1549, ⟨T1549, L1549, k1549, n1549⟩, -, X1549, hS1549, gr1549, ⟨Lc1549, hQ1549, l1549, y1549, z1549, C1549⟩, st1549⟩ := X1531.specialBackS hx (y := (⟨"com/example/fides/fides/RecordId", "<init>", "(Ljava/lang/String;Ljava/lang/String;)V"⟩ : MethodName)) rfl hown (mvT hZ (hq hw 36 rfl)) (mvT hZ (hq hw 37 rfl)) (mvT hZ (hq hw 38 rfl)) (by decide) (backOfSH (s := s) (vm0 := s.vm) (W := 1) (rm7 l Z a0 hw [] b1531 b1169 b1456 ta1227 kb1227 (3 : Int32) [(.int (nar .byte (c0.toInt8.toInt32))), (.int (nar .byte (c1.toInt8.toInt32))), (.int (nar .byte (c2.toInt8.toInt32)))] h1531 n0 z1544 A1531 fa1546 fa1547 fa1536 fa1539 fa1537 g_b1531 (Ne.symm ne_b1169_b1531) (Ne.symm ne_ta1227_b1531) (by decide)) hZ (hq hw 38 rfl) (hq hw 35 rfl) (by decide) (by decide) hEL ch1532) (g := (mkF m 307 #[iv p0, iv p1, iv c0, iv c1, iv c2, iv 3, iv d0, iv d1, iv d2, iv 2, rv b3, rv b30, rv b1169, rv b1456, .unset, .unset] [(.ref b1456), (.ref b1169), (.ref b1531), (.ref b1531)])) rfl (by rw [hml]; rfl) (Steps.refl _) (a := b1531) (argsL := [(.ref b1169), (.ref b1456)]) (rest := [(.ref b1531)]) (lenOf pd_27 rfl) rfl (by show 2 * 0 + _ ≤ _; exact Nat.le_of_eq rfl) (hb hby at_307) (fun _ _ => ⟨rfl, e1531, (by decide : 9 + 4 ≤ _), (by decide : 26 + 40 ≤ _)⟩)
     dsimp only [Pt.U, Pt.locs, Pt.cells, Pt.slots] at X1549 l1549 y1549 z1549 st1549 hQ1549 hS1549 gr1549 C1549
     subst l1549 y1549 z1549
     have hS := hS.trans hS1549 (Nat.le_trans hk (by rw [← show T1531.heap = h1531 from e1531]; exact gr1549))
     have hZ : Z.Warmed39 (s.setVm T1549.vm).vm := State.Warmed39.trans hZ hS1549.1
     have hown : (s.setVm T1549.vm).vm.findClass "com/example/fides/fides/RecordIdToStringPinLaw" = some m.cls := by rw [show (s.setVm T1549.vm).vm = T1549.vm from rfl, hS1549.1.alike.findClass]; exact hown
     have X1549 : Stand p l e room_1 (s.setVm T1549.vm) m #[(.int p0), (.int p1)] below meth c T1549 _ _ _ := X1549
     have hk : T1549.heap.size ≤ T1549.heap.size := Nat.le_refl _
     have cr1550 := cr1532.trans C1549
     have ch1550 := C1549.1
     have sf1550_b1531 := C1549.safe A1531.lt sf1532_b1531
     obtain ⟨rfl, N1549q, K1549, Ft1549, Fk1549⟩ := hQ1549
     have N1549 := Fr.app N1518 N1549q
     have fa1551 := fa1533.keep K1549 (allS g_b1531 all0)
     have fa1552 := fa1534.keep K1549 (ninS ne_b3_b1531 nin0)
     have fa1553 := fa1535.keep K1549 (ninS ne_b30_b1531 nin0)
     have fa1554 := fa1536.keep K1549
     have fa1555 := fa1537.keep K1549 (ninS ne_ta1227_b1531 nin0)
     have fa1556 := fa1538.keep K1549 (ninS ne_b1169_b1531 nin0)
     have fa1557 := fa1539.keep K1549 (ninS ne_b1169_b1531 nin0)
     have fa1558 := fa1540.keep K1549
     have fa1559 := fa1541.keep K1549 (ninS ne_ta1518_b1531 nin0)
     have fa1560 := fa1542.keep K1549 (ninS ne_b1456_b1531 nin0)
     have fa1561 := fa1543.keep K1549 (ninS ne_b1456_b1531 nin0)
     have fa1562 := A1531.keep K1549
     have z1563 : n0 ≤ T1549.heap.size := Nat.le_trans z1544 K1549.1
     have kp1564 : Keep h0 T1549.heap [] := kp1545.trans K1549 (allS (Or.inr sz_b1531) all0)
     have G1565 : ∀ t, Steps p.tables e below (T1549.setTop (mkF m 310 #[iv p0, iv p1, iv c0, iv c1, iv c2, iv 3, iv d0, iv d1, iv d2, iv 2, rv b3, rv b30, rv b1169, rv b1456, .unset, .unset] [(.ref b1531)])) t → Steps p.tables e below (s₁.setTop (entryFrame m #[(.int p0), (.int p1)] maxLocals)) t := by
      intro t kt
      refine G1548 _ ?_
      refine st1549.trans ?_
      exact kt
     obtain ⟨cq1566, kq1566, q1566a, q1566b, q1566c⟩ := isOf hZ rfl fa1562
     obtain ⟨_, vm1566, ⟨T1566, L1566, k1566, n1566⟩, -, X1566, hS1566, gr1566, ⟨Lc1566, hQ1566, l1566, y1566, z1566, C1566⟩, st1566⟩ := X1549.virtualBackS hx (y := (⟨"com/example/fides/fides/RecordId", "toString", "()Ljava/lang/String;"⟩ : MethodName)) (z := (⟨"com/example/fides/fides/RecordId", "toString", "()Ljava/lang/String;"⟩ : MethodName)) hown (mvT hZ (hq hw 60 rfl)) (mvT hZ (hq hw 61 rfl)) (notFace_of_selects (args := #[]) (mvT hZ (hq hw 63 rfl))) (mvT hZ (hq hw 63 rfl)) (mvT hZ (hq hw 62 rfl)) (by decide) (backOfSH (s := s) (vm0 := T1549.vm) (W := 0) (rm11 l Z a0 hw [] b1531 b1169 ta1227 kb1227 (3 : Int32) [(.int (nar .byte (c0.toInt8.toInt32))), (.int (nar .byte (c1.toInt8.toInt32))), (.int (nar .byte (c2.toInt8.toInt32)))] b1456 ta1518 kb1518 (2 : Int32) [(.int (nar .byte (d0.toInt8.toInt32))), (.int (nar .byte (d1.toInt8.toInt32)))] (6 : Int32) [(.int (nar .byte (c0.toInt8.toInt32))), (.int (nar .byte (c1.toInt8.toInt32))), (.int (nar .byte (c2.toInt8.toInt32))), (.int (47 : Int32)), (.int (nar .byte (d0.toInt8.toInt32))), (.int (nar .byte (d1.toInt8.toInt32)))] cst fv T1549.heap n0 z1563 Ft1549 Fk1549 fa1554 fa1556 fa1557 fa1555 fa1558 fa1560 fa1561 fa1559 fa1551 (by decide) (own_mkok (by decide) (by decide) (by decide) (by decide) (Nat.le_of_ble_eq_true rfl)) (by decide) (own_mkok (by decide) (by decide) (by decide) (by decide) (Nat.le_of_ble_eq_true rfl)) (by decide) (own_mkok (by decide) (by decide) (by decide) (by decide) (Nat.le_of_ble_eq_true rfl)) (own_cr6) (by decide) rfl SS) hZ (hq hw 64 rfl) (hq hw 35 rfl) (by decide) (by decide) hEL ch1550) q1566a q1566c (g := (mkF m 310 #[iv p0, iv p1, iv c0, iv c1, iv c2, iv 3, iv d0, iv d1, iv d2, iv 2, rv b3, rv b30, rv b1169, rv b1456, .unset, .unset] [(.ref b1531)])) rfl (by rw [hml]; rfl) (Steps.refl _) (argsL := []) (rest := []) (lenOf pd_23 rfl) rfl (by show 2 * 0 + _ ≤ _; exact Nat.le_of_eq rfl) (hb hby at_310) (fun _ _ => ⟨rfl, rfl, (by decide : 13 + 6 ≤ _), (by decide : 66 + 40 ≤ _)⟩)
     dsimp only [Pt.U, Pt.locs, Pt.cells, Pt.slots] at X1566 l1566 y1566 z1566 st1566 hQ1566 hS1566 gr1566 C1566
     subst l1566 y1566 z1566
     have hS := hS.trans hS1566 (Nat.le_trans hk (by rw [← show T1549.heap = T1549.heap from rfl]; exact gr1566))
     have hZ : Z.Warmed39 (s.setVm T1566.vm).vm := State.Warmed39.trans hZ hS1566.1
     have hown : (s.setVm T1566.vm).vm.findClass "com/example/fides/fides/RecordIdToStringPinLaw" = some m.cls := by rw [show (s.setVm T1566.vm).vm = T1566.vm from rfl, hS1566.1.alike.findClass]; exact hown
     have X1566 : Stand p l e room_1 (s.setVm T1566.vm) m #[(.int p0), (.int p1)] below meth c T1566 _ _ _ := X1566
     have hk : T1566.heap.size ≤ T1566.heap.size := Nat.le_refl _
     have cr1567 := cr1550.trans C1566
     have ch1567 := C1566.1
     have sf1567_b1531 := C1566.safe fa1562.lt sf1550_b1531
     obtain ⟨s1566, t1566, kb1566, rfl, N1566q, K1566, A1566, Fc1566, Fv1566, V1566⟩ := hQ1566
     have N1566 := Fr.app N1549 N1566q
     have fa1568 := fa1551.keep K1566 all0
     have fa1569 := fa1552.keep K1566 nin0
     have fa1570 := fa1553.keep K1566 nin0
     have fa1571 := fa1554.keep K1566
     have fa1572 := fa1555.keep K1566 nin0
     have fa1573 := fa1556.keep K1566 nin0
     have fa1574 := fa1557.keep K1566 nin0
     have fa1575 := fa1558.keep K1566
     have fa1576 := fa1559.keep K1566 nin0
     have fa1577 := fa1560.keep K1566 nin0
     have fa1578 := fa1561.keep K1566 nin0
     have fa1579 := fa1562.keep K1566
     have fa1580 := Ft1549.keep K1566 nin0
     have fa1581 := Fk1549.keep K1566 nin0
     have z1582 : n0 ≤ T1566.heap.size := Nat.le_trans z1563 K1566.1
     have kp1583 : Keep h0 T1566.heap [] := kp1564.trans K1566 all0
     have G1584 : ∀ t, Steps p.tables e below (T1566.setTop (mkF m 324 #[iv p0, iv p1, iv c0, iv c1, iv c2, iv 3, iv d0, iv d1, iv d2, iv 2, rv b3, rv b30, rv b1169, rv b1456, rv s1566, iv 6] [])) t → Steps p.tables e below (s₁.setTop (entryFrame m #[(.int p0), (.int p1)] maxLocals)) t := by
      intro t kt
      refine G1565 _ ?_
      refine st1566.trans ?_
      refine XS.astore X1566.here hx rfl (hb hby at_313) rfl rfl (l' := #[iv p0, iv p1, iv c0, iv c1, iv c2, iv 3, iv d0, iv d1, iv d2, iv 2, rv b3, rv b30, rv b1169, rv b1456, rv s1566, .unset]) rfl ?_
      refine XS.iload X1566.here hx rfl (hb hby at_315) rfl ?_
      refine XS.iconst X1566.here hx rfl (hb hby at_317) ?_
      refine XS.iadd X1566.here hx rfl (hb hby at_318) rfl ?_
      refine XS.iload X1566.here hx rfl (hb hby at_319) rfl ?_
      refine XS.iadd X1566.here hx rfl (hb hby at_321) rfl ?_
      refine XS.istore X1566.here hx rfl (hb hby at_322) rfl (l' := #[iv p0, iv p1, iv c0, iv c1, iv c2, iv 3, iv d0, iv d1, iv d2, iv 2, rv b3, rv b30, rv b1169, rv b1456, rv s1566, iv 6]) rfl ?_
      exact kt
     obtain ⟨T1585, L1585, X1585, e1585, N1585, K1585⟩ := own_tail (l := l) (Z := Z) (a0 := a0) (iv p0) (iv p1) (iv c0) (iv c1) (iv c2) (iv d0) (iv d1) (iv d2) (iv 2) (rv b1169) (rv b1456) (3 : Int32) (6 : Int32) b3 b30 s1566 t1566 kb1566 (6 : Int32) [(.int (nar .byte (c0.toInt8.toInt32))), (.int (nar .byte (c1.toInt8.toInt32))), (.int (nar .byte (c2.toInt8.toInt32))), (.int (47 : Int32)), (.int (nar .byte (d0.toInt8.toInt32))), (.int (nar .byte (d1.toInt8.toInt32)))] k3 (3 : Int32) [(.int c0), (.int c1), (.int c2)] k30 (3 : Int32) [(.int d0), (.int d1), (.int d2)] cst fv X1566 hx hZ hw hby hml hown rfl N1566 z1582 A1566 Fc1566 Fv1566 V1566 fa1569 fa1570 fa1568 (by decide) (by decide) (by decide) (own_atT (xx := (nar .byte (c0.toInt8.toInt32))) (cc := c0) (by decide) (by decide) (by decide) rfl (own_lat c0 hb_c0 hp_c0) (by decide) rfl (by decide)) (own_atT (xx := (nar .byte (c1.toInt8.toInt32))) (cc := c1) (by decide) (by decide) (by decide) rfl (own_lat c1 hb_c1 hp_c1) (by decide) rfl (by decide)) (own_atT (xx := (nar .byte (c2.toInt8.toInt32))) (cc := c2) (by decide) (by decide) (by decide) rfl (own_lat c2 hb_c2 hp_c2) (by decide) rfl (by decide)) (own_atM (xx := (47 : Int32)) (by decide) (by decide) (by decide) rfl (by decide) (by decide) (by decide)) (own_atK (xx := (nar .byte (d0.toInt8.toInt32))) (cc := d0) (by decide) (by decide) (by decide) rfl (own_lat d0 hb_d0 hp_d0) (by decide) rfl (by decide) (by decide)) (own_atK (xx := (nar .byte (d1.toInt8.toInt32))) (cc := d1) (by decide) (by decide) (by decide) rfl (own_lat d1 hb_d1 hp_d1) (by decide) rfl (by decide) (by decide)) (own_atD (by decide)) SS
     have G1586 : ∀ t, Steps p.tables e below (T1585.setTop (mkF m 461 #[iv p0, iv p1, iv c0, iv c1, iv c2, iv 3, iv d0, iv d1, iv d2, iv 2, rv b3, rv b30, rv b1169, rv b1456, rv s1566, iv 6] [])) t → Steps p.tables e below (s₁.setTop (entryFrame m #[(.int p0), (.int p1)] maxLocals)) t := fun t kt => G1584 t (K1585 t kt)
     obtain ⟨fs, hr, hrun, hended, hRW⟩ := X1585.leaveW (s := s) hS (by rw [show T1585.heap = T1566.heap from e1585]; exact hk) (v := some (.int (1 : Int32))) (fun h => by rw [Bd.returns] at h; cases h) (BodyLoose.notSynchronized Bd)
     refine ⟨_, _, G1586 _ ?_, hrun, hended, _, _, rfl, ?_, hRW.1, hRW.2.1, hRW.2.2.1, hRW.2.2.2.mono (by decide) (by decide)⟩
     ·skip
      show Steps p.tables e below (T1585.setTop (mkF m 461 #[iv p0, iv p1, iv c0, iv c1, iv c2, iv 3, iv d0, iv d1, iv d2, iv 2, rv b3, rv b30, rv b1169, rv b1456, rv s1566, iv 6] [])) _
      refine XS.iconst X1585.here hx rfl (hb hby at_461) ?_
      refine XS.goto X1585.here hx rfl (pc0 := 462) (pc' := 466) rfl (hb hby at_462) (by decide) (by decide) ?_
      exact retN X1585 hx (t := .boolean) Bd.returns (by simp) (hb hby at_466) hr
     ·show Q0 Z p0 p1 cst fv h0 n0 _ T1585.heap _
      rw [e1585]
      exact ⟨rfl, N1585⟩
   ·skip
    have G1587 : ∀ t, Steps p.tables e below (T1227.setTop (mkF m 197 #[iv p0, iv p1, iv c0, iv c1, iv c2, iv 3, iv d0, iv d1, iv d2, iv 3, rv b3, rv b30, rv b1169, .unset, .unset, .unset] [(.int (3 : Int32))])) t → Steps p.tables e below (s₁.setTop (entryFrame m #[(.int p0), (.int p1)] maxLocals)) t := by
     intro t kt
     refine G1236 _ ?_
     refine XS.iload X1227.here hx rfl (hb hby at_195) rfl ?_
     exact kt
    have G1588 : ∀ t, Steps p.tables e below (T1227.setTop (mkF m 218 #[iv p0, iv p1, iv c0, iv c1, iv c2, iv 3, iv d0, iv d1, iv d2, iv 3, rv b3, rv b30, rv b1169, .unset, .unset, .unset] [(.int (1 : Int32)), (.int (3 : Int32))])) t → Steps p.tables e below (s₁.setTop (entryFrame m #[(.int p0), (.int p1)] maxLocals)) t := by
     intro t kt
     refine G1587 _ ?_
     refine XS.ifYes X1227.here hx rfl (pc0 := 197) (pc' := 215) rfl (hb hby at_197) rfl ((if0 _ _).trans (feq (by decide)).2) (by decide) (by decide) ?_
     refine XS.iload X1227.here hx rfl (hb hby at_215) rfl ?_
     refine XS.iconst X1227.here hx rfl (hb hby at_217) ?_
     exact kt
    have G1589 : ∀ t, Steps p.tables e below (T1227.setTop (mkF m 244 #[iv p0, iv p1, iv c0, iv c1, iv c2, iv 3, iv d0, iv d1, iv d2, iv 3, rv b3, rv b30, rv b1169, .unset, .unset, .unset] [(.int (2 : Int32)), (.int (3 : Int32))])) t → Steps p.tables e below (s₁.setTop (entryFrame m #[(.int p0), (.int p1)] maxLocals)) t := by
     intro t kt
     refine G1588 _ ?_
     refine XS.icmpYes X1227.here hx rfl (pc0 := 218) (pc' := 241) rfl (hb hby at_218) rfl (feq (by decide)).2 (by decide) (by decide) ?_
     refine XS.iload X1227.here hx rfl (hb hby at_241) rfl ?_
     refine XS.iconst X1227.here hx rfl (hb hby at_243) ?_
     exact kt
    obtain ⟨T1590, h1590, X1590, e1590, E1590, A1590, D1590, -, st1590⟩ := newO X1227 hx hZ hown (hq hw 1 rfl) (hq hw 2 rfl) (hq hw 3 rfl) rfl (g := (mkF m 272 #[iv p0, iv p1, iv c0, iv c1, iv c2, iv 3, iv d0, iv d1, iv d2, iv 3, rv b3, rv b30, rv b1169, .unset, .unset, .unset] [])) rfl (hb hby at_272) (by decide) (by decide)
    obtain ⟨b1590, g1590⟩ : ∃ z, z = T1227.heap.size := ⟨_, rfl⟩
    rw [← g1590] at A1590 D1590 st1590
    have g_b1590 : n0 ≤ b1590 := Nat.le_trans z1234 (Nat.le_of_eq g1590.symm)
    have sz_b1590 : h0.size ≤ b1590 := Nat.le_trans kp1235.1 (Nat.le_of_eq g1590.symm)
    have ne_b3_b1590 : b3 ≠ b1590 := Nat.ne_of_lt (Nat.lt_of_lt_of_le fa1230.lt (Nat.le_of_eq g1590.symm))
    have ne_b30_b1590 : b30 ≠ b1590 := Nat.ne_of_lt (Nat.lt_of_lt_of_le fa1231.lt (Nat.le_of_eq g1590.symm))
    have ne_b1169_b1590 : b1169 ≠ b1590 := Nat.ne_of_lt (Nat.lt_of_lt_of_le A1227.lt (Nat.le_of_eq g1590.symm))
    have ne_ta1227_b1590 : ta1227 ≠ b1590 := Nat.ne_of_lt (Nat.lt_of_lt_of_le V1227.lt (Nat.le_of_eq g1590.symm))
    have ch1591 : CHv Z own_EL s.vm h1590 := ch1228.ext E1590
    have cr1591 : CHr Z own_EL s.vm h0 s.vm h1590 := cr1228.trans (CHr.ext E1590 ch1228)
    have sf1591_b1590 : Safe Z own_EL s.vm h1590 b1590 := Safe.ext E1590 ch1228 (Safe.new (Nat.le_of_eq g1590.symm))
    have fa1592 := fa1229.ext E1590
    have fa1593 := fa1230.ext E1590
    have fa1594 := fa1231.ext E1590
    have fa1595 := A1227.ext E1590
    have fa1596 := V1227.ext E1590
    have fa1597 := Fc1227.ext E1590
    have fa1598 := Fv1227.ext E1590
    have z1599 : n0 ≤ h1590.size := Nat.le_trans z1234 E1590.1
    have hk := Nat.le_trans hk E1590.1
    have kp1600 : Keep h0 h1590 [] := kp1235.ext E1590
    have fa1601 : Fld Z h1590 b1590 "java/lang/String" "coder" "B" (.int (0 : Int32)) := D1590 (Or.inr (hq hw 27 rfl)) (ty := .byte) (by decide)
    have fa1602 : Fld Z h1590 b1590 "java/lang/String" "value" "[B" .null := D1590 (Or.inr (hq hw 29 rfl)) (ty := (.array .byte)) (by decide)
    obtain ⟨T1603, h1603, k1603, X1603, e1603, E1603, A1603, st1603⟩ := newP X1590 hx hZ (hq hw 0 rfl) e1590 (g := (mkF m 277 #[iv p0, iv p1, iv c0, iv c1, iv c2, iv 3, iv d0, iv d1, iv d2, iv 3, rv b3, rv b30, rv b1169, .unset, .unset, .unset] [(.int (3 : Int32)), (.ref b1590), (.ref b1590)])) rfl (hb hby at_277) rfl (by decide) (cap := 3) (by decide) (by decide) (by decide) (by decide)
    obtain ⟨b1603, g1603⟩ : ∃ z, z = h1590.size := ⟨_, rfl⟩
    rw [← g1603] at A1603 st1603
    have g_b1603 : n0 ≤ b1603 := Nat.le_trans z1599 (Nat.le_of_eq g1603.symm)
    have sz_b1603 : h0.size ≤ b1603 := Nat.le_trans kp1600.1 (Nat.le_of_eq g1603.symm)
    have ne_b3_b1603 : b3 ≠ b1603 := Nat.ne_of_lt (Nat.lt_of_lt_of_le fa1593.lt (Nat.le_of_eq g1603.symm))
    have ne_b30_b1603 : b30 ≠ b1603 := Nat.ne_of_lt (Nat.lt_of_lt_of_le fa1594.lt (Nat.le_of_eq g1603.symm))
    have ne_b1169_b1603 : b1169 ≠ b1603 := Nat.ne_of_lt (Nat.lt_of_lt_of_le fa1595.lt (Nat.le_of_eq g1603.symm))
    have ne_ta1227_b1603 : ta1227 ≠ b1603 := Nat.ne_of_lt (Nat.lt_of_lt_of_le fa1596.lt (Nat.le_of_eq g1603.symm))
    have ne_b1590_b1603 : b1590 ≠ b1603 := Nat.ne_of_lt (Nat.lt_of_lt_of_le A1590.lt (Nat.le_of_eq g1603.symm))
    have ch1604 : CHv Z own_EL s.vm h1603 := ch1591.ext E1603
    have cr1604 : CHr Z own_EL s.vm h0 s.vm h1603 := cr1591.trans (CHr.ext E1603 ch1591)
    have sf1604_b1590 : Safe Z own_EL s.vm h1603 b1590 := Safe.ext E1603 ch1591 sf1591_b1590
    have sf1604_b1603 : Safe Z own_EL s.vm h1603 b1603 := Safe.ext E1603 ch1591 (Safe.new (Nat.le_of_eq g1603.symm))
    have fa1605 := fa1592.ext E1603
    have fa1606 := fa1593.ext E1603
    have fa1607 := fa1594.ext E1603
    have fa1608 := fa1595.ext E1603
    have fa1609 := fa1596.ext E1603
    have fa1610 := fa1597.ext E1603
    have fa1611 := fa1598.ext E1603
    have fa1612 := A1590.ext E1603
    have fa1613 := fa1601.ext E1603
    have fa1614 := fa1602.ext E1603
    have z1615 : n0 ≤ h1603.size := Nat.le_trans z1599 E1603.1
    have hk := Nat.le_trans hk E1603.1
    have kp1616 : Keep h0 h1603 [] := kp1600.ext E1603
    have fa1617 : Arv Z h1603 b1603 k1603 .char (3 : Int32) [(.int (0 : Int32)), (.int (0 : Int32)), (.int (0 : Int32))] (.int (0 : Int32)) := (Arv.new A1603 (by decide)).pad (pad_rep [] (.int (0 : Int32)) 3)
    obtain ⟨cl1618, Ar1618, q1618, S1618, M1618, H1618, G1618⟩ := id fa1617
    have hin1618 : ¬ ((0 : Int32) < 0 ∨ cl1618.slots.size ≤ ((0 : Int32)).toNatClampNeg) := inb_of S1618 ⟨by decide, by decide⟩
    obtain ⟨T1619, h1619, X1619, e1619, W1619, st1619⟩ := stC X1603 hx hZ e1603 Ar1618 (j := (0 : Int32)) hin1618 (g := (mkF m 283 #[iv p0, iv p1, iv c0, iv c1, iv c2, iv 3, iv d0, iv d1, iv d2, iv 3, rv b3, rv b30, rv b1169, .unset, .unset, .unset] [(.int d0), (.int (0 : Int32)), (.ref b1603), (.ref b1603), (.ref b1590), (.ref b1590)])) rfl rfl (hb hby at_283)
    have ch1620 : CHv Z own_EL s.vm h1619 := ch1604.wr W1619 sf1604_b1603
    have cr1620 : CHr Z own_EL s.vm h0 s.vm h1619 := cr1604.trans (CHr.wr W1619 sf1604_b1603 ch1604)
    have sf1620_b1590 : Safe Z own_EL s.vm h1619 b1590 := Safe.wr W1619 sf1604_b1603 ch1604 sf1604_b1590
    have sf1620_b1603 : Safe Z own_EL s.vm h1619 b1603 := Safe.wr W1619 sf1604_b1603 ch1604 sf1604_b1603
    have fa1621 := fa1605.wr W1619 g_b1603
    have fa1622 := fa1606.other W1619 ne_b3_b1603
    have fa1623 := fa1607.other W1619 ne_b30_b1603
    have fa1624 := fa1608.wr W1619
    have fa1625 := fa1609.other W1619 ne_ta1227_b1603
    have fa1626 := fa1610.other W1619 (Or.inl ne_b1169_b1603)
    have fa1627 := fa1611.other W1619 (Or.inl ne_b1169_b1603)
    have fa1628 := fa1612.wr W1619
    have fa1629 := fa1613.other W1619 (Or.inl ne_b1590_b1603)
    have fa1630 := fa1614.other W1619 (Or.inl ne_b1590_b1603)
    have z1631 : n0 ≤ h1619.size := Nat.le_trans z1615 (Nat.le_of_eq W1619.size.symm)
    have hk := Nat.le_trans hk (Nat.le_of_eq W1619.size.symm)
    have kp1632 : Keep h0 h1619 [] := kp1616.wr W1619 (Or.inr sz_b1603)
    have fa1633 : Arv Z h1619 b1603 k1603 .char (3 : Int32) [(.int (nar .char d0)), (.int (0 : Int32)), (.int (0 : Int32))] (.int (0 : Int32)) := Arv.set Ar1618 q1618 S1618 M1618 H1618 G1618 (fits_nar_char _) W1619 0 rfl (Nat.le_of_ble_eq_true rfl)
    have N1619 := Fr.snoc X1619 N1227 g_b1603
    obtain ⟨cl1634, Ar1634, q1634, S1634, M1634, H1634, G1634⟩ := id fa1633
    have hin1634 : ¬ ((1 : Int32) < 0 ∨ cl1634.slots.size ≤ ((1 : Int32)).toNatClampNeg) := inb_of S1634 ⟨by decide, by decide⟩
    obtain ⟨T1635, h1635, X1635, e1635, W1635, st1635⟩ := stC X1619 hx hZ e1619 Ar1634 (j := (1 : Int32)) hin1634 (g := (mkF m 288 #[iv p0, iv p1, iv c0, iv c1, iv c2, iv 3, iv d0, iv d1, iv d2, iv 3, rv b3, rv b30, rv b1169, .unset, .unset, .unset] [(.int d1), (.int (1 : Int32)), (.ref b1603), (.ref b1603), (.ref b1590), (.ref b1590)])) rfl rfl (hb hby at_288)
    have ch1636 : CHv Z own_EL s.vm h1635 := ch1620.wr W1635 sf1620_b1603
    have cr1636 : CHr Z own_EL s.vm h0 s.vm h1635 := cr1620.trans (CHr.wr W1635 sf1620_b1603 ch1620)
    have sf1636_b1590 : Safe Z own_EL s.vm h1635 b1590 := Safe.wr W1635 sf1620_b1603 ch1620 sf1620_b1590
    have sf1636_b1603 : Safe Z own_EL s.vm h1635 b1603 := Safe.wr W1635 sf1620_b1603 ch1620 sf1620_b1603
    have fa1637 := fa1621.wr W1635 g_b1603
    have fa1638 := fa1622.other W1635 ne_b3_b1603
    have fa1639 := fa1623.other W1635 ne_b30_b1603
    have fa1640 := fa1624.wr W1635
    have fa1641 := fa1625.other W1635 ne_ta1227_b1603
    have fa1642 := fa1626.other W1635 (Or.inl ne_b1169_b1603)
    have fa1643 := fa1627.other W1635 (Or.inl ne_b1169_b1603)
    have fa1644 := fa1628.wr W1635
    have fa1645 := fa1629.other W1635 (Or.inl ne_b1590_b1603)
    have fa1646 := fa1630.other W1635 (Or.inl ne_b1590_b1603)
    have z1647 : n0 ≤ h1635.size := Nat.le_trans z1631 (Nat.le_of_eq W1635.size.symm)
    have hk := Nat.le_trans hk (Nat.le_of_eq W1635.size.symm)
    have kp1648 : Keep h0 h1635 [] := kp1632.wr W1635 (Or.inr sz_b1603)
    have fa1649 : Arv Z h1635 b1603 k1603 .char (3 : Int32) [(.int (nar .char d0)), (.int (nar .char d1)), (.int (0 : Int32))] (.int (0 : Int32)) := Arv.set Ar1634 q1634 S1634 M1634 H1634 G1634 (fits_nar_char _) W1635 1 rfl (Nat.le_of_ble_eq_true rfl)
    have N1635 := Fr.snoc X1635 N1619 g_b1603
    obtain ⟨cl1650, Ar1650, q1650, S1650, M1650, H1650, G1650⟩ := id fa1649
    have hin1650 : ¬ ((2 : Int32) < 0 ∨ cl1650.slots.size ≤ ((2 : Int32)).toNatClampNeg) := inb_of S1650 ⟨by decide, by decide⟩
    obtain ⟨T1651, h1651, X1651, e1651, W1651, st1651⟩ := stC X1635 hx hZ e1635 Ar1650 (j := (2 : Int32)) hin1650 (g := (mkF m 293 #[iv p0, iv p1, iv c0, iv c1, iv c2, iv 3, iv d0, iv d1, iv d2, iv 3, rv b3, rv b30, rv b1169, .unset, .unset, .unset] [(.int d2), (.int (2 : Int32)), (.ref b1603), (.ref b1603), (.ref b1590), (.ref b1590)])) rfl rfl (hb hby at_293)
    have ch1652 : CHv Z own_EL s.vm h1651 := ch1636.wr W1651 sf1636_b1603
    have cr1652 : CHr Z own_EL s.vm h0 s.vm h1651 := cr1636.trans (CHr.wr W1651 sf1636_b1603 ch1636)
    have sf1652_b1590 : Safe Z own_EL s.vm h1651 b1590 := Safe.wr W1651 sf1636_b1603 ch1636 sf1636_b1590
    have sf1652_b1603 : Safe Z own_EL s.vm h1651 b1603 := Safe.wr W1651 sf1636_b1603 ch1636 sf1636_b1603
    have fa1653 := fa1637.wr W1651 g_b1603
    have fa1654 := fa1638.other W1651 ne_b3_b1603
    have fa1655 := fa1639.other W1651 ne_b30_b1603
    have fa1656 := fa1640.wr W1651
    have fa1657 := fa1641.other W1651 ne_ta1227_b1603
    have fa1658 := fa1642.other W1651 (Or.inl ne_b1169_b1603)
    have fa1659 := fa1643.other W1651 (Or.inl ne_b1169_b1603)
    have fa1660 := fa1644.wr W1651
    have fa1661 := fa1645.other W1651 (Or.inl ne_b1590_b1603)
    have fa1662 := fa1646.other W1651 (Or.inl ne_b1590_b1603)
    have z1663 : n0 ≤ h1651.size := Nat.le_trans z1647 (Nat.le_of_eq W1651.size.symm)
    have hk := Nat.le_trans hk (Nat.le_of_eq W1651.size.symm)
    have kp1664 : Keep h0 h1651 [] := kp1648.wr W1651 (Or.inr sz_b1603)
    have fa1665 : Arv Z h1651 b1603 k1603 .char (3 : Int32) [(.int (nar .char d0)), (.int (nar .char d1)), (.int (nar .char d2))] (.int (0 : Int32)) := Arv.set Ar1650 q1650 S1650 M1650 H1650 G1650 (fits_nar_char _) W1651 2 rfl (Nat.le_of_ble_eq_true rfl)
    have N1651 := Fr.snoc X1651 N1635 g_b1603
    have fa1666 : Arv Z h1651 b1603 k1603 .char (3 : Int32) [(.int d0), (.int d1), (.int d2)] (.int (0 : Int32)) := by have q := fa1665; rw [own_narc d0 hb_d0, own_narc d1 hb_d1, own_narc d2 hb_d2] at q; exact q
    have G1667 : ∀ t, Steps p.tables e below (T1651.setTop (mkF m 294 #[iv p0, iv p1, iv c0, iv c1, iv c2, iv 3, iv d0, iv d1, iv d2, iv 3, rv b3, rv b30, rv b1169, .unset, .unset, .unset] [(.ref b1603), (.ref b1590), (.ref b1590)])) t → Steps p.tables e below (s₁.setTop (entryFrame m #[(.int p0), (.int p1)] maxLocals)) t := by
     intro t kt
     refine G1589 _ ?_
     refine XS.icmpYes X1227.here hx rfl (pc0 := 244) (pc' := 272) rfl (hb hby at_244) rfl (feq (by decide)).2 (by decide) (by decide) ?_
     refine st1590 _ ?_
     refine XS.dup X1590.here hx rfl (hb hby at_275) rfl rfl ?_
     refine XS.iconst X1590.here hx rfl (hb hby at_276) ?_
     refine st1603 _ ?_
     refine XS.dup X1603.here hx rfl (hb hby at_279) rfl rfl ?_
     refine XS.iconst X1603.here hx rfl (hb hby at_280) ?_
     refine XS.iload X1603.here hx rfl (hb hby at_281) rfl ?_
     refine st1619 _ ?_
     show Steps p.tables e below (T1619.setTop (mkF m 284 #[iv p0, iv p1, iv c0, iv c1, iv c2, iv 3, iv d0, iv d1, iv d2, iv 3, rv b3, rv b30, rv b1169, .unset, .unset, .unset] [(.ref b1603), (.ref b1590), (.ref b1590)])) _
     refine XS.dup X1619.here hx rfl (hb hby at_284) rfl rfl ?_
     refine XS.iconst X1619.here hx rfl (hb hby at_285) ?_
     refine XS.iload X1619.here hx rfl (hb hby at_286) rfl ?_
     refine st1635 _ ?_
     refine XS.dup X1635.here hx rfl (hb hby at_289) rfl rfl ?_
     refine XS.iconst X1635.here hx rfl (hb hby at_290) ?_
     refine XS.iload X1635.here hx rfl (hb hby at_291) rfl ?_
     refine st1651 _ ?_
     exact kt
    obtain ⟨_, _, ⟨T1668, L1668, k1668, n1668⟩, -, X1668, ⟨Lc1668, hQ1668, l1668, y1668, z1668⟩, st1668⟩ := X1651.specialBack hx (y := (⟨"java/lang/String", "<init>", "([C)V"⟩ : MethodName)) rfl hown (mvT hZ (hq hw 4 rfl)) (mvT hZ (hq hw 5 rfl)) (mvT hZ (hq hw 6 rfl)) (by decide) (backOf (W := 1) (rmSF_3 l Z a0 hw [] b1590 b1603 d0 d1 d2 k1603 cst fv h1651 n0 z1663 fa1660 fa1662 fa1661 fa1666 fa1653 g_b1590 ne_b1590_b1603 hb_d0 hb_d1 hb_d2 hp_d0 hp_d1 hp_d2 SS) hZ (hq hw 6 rfl) (hq hw 3 rfl) (by decide) (by decide)) (g := (mkF m 294 #[iv p0, iv p1, iv c0, iv c1, iv c2, iv 3, iv d0, iv d1, iv d2, iv 3, rv b3, rv b30, rv b1169, .unset, .unset, .unset] [(.ref b1603), (.ref b1590), (.ref b1590)])) rfl (by rw [hml]; rfl) (Steps.refl _) (a := b1590) (argsL := [(.ref b1603)]) (rest := [(.ref b1590)]) (lenOf pd_26 rfl) rfl (by show 2 * 0 + _ ≤ _; exact Nat.le_of_eq rfl) (hb hby at_294) (fun _ _ => ⟨rfl, e1651, (by decide : 7 + 1 ≤ _), (by decide : 23 + 3 ≤ _)⟩)
    dsimp only [Pt.U, Pt.locs, Pt.cells, Pt.slots] at X1668 l1668 y1668 z1668 st1668 hQ1668
    subst l1668 y1668 z1668
    rcases hQ1668 with ⟨rfl, N1668q, K1668, A1668, hq1668, Fc1668, ta1668, kb1668, Fv1668, sz1668, g_ta1668, V1668⟩
    ·skip
     have N1668 := Fr.app N1651 N1668q
     have szk1668 : h0.size ≤ ta1668 := Nat.le_trans kp1664.1 sz1668
     have ne_b3_ta1668 : b3 ≠ ta1668 := Nat.ne_of_lt (Nat.lt_of_lt_of_le fa1654.lt sz1668)
     have ne_b30_ta1668 : b30 ≠ ta1668 := Nat.ne_of_lt (Nat.lt_of_lt_of_le fa1655.lt sz1668)
     have ne_b1169_ta1668 : b1169 ≠ ta1668 := Nat.ne_of_lt (Nat.lt_of_lt_of_le fa1656.lt sz1668)
     have ne_ta1227_ta1668 : ta1227 ≠ ta1668 := Nat.ne_of_lt (Nat.lt_of_lt_of_le fa1657.lt sz1668)
     have ne_b1590_ta1668 : b1590 ≠ ta1668 := Nat.ne_of_lt (Nat.lt_of_lt_of_le fa1660.lt sz1668)
     have ne_b1603_ta1668 : b1603 ≠ ta1668 := Nat.ne_of_lt (Nat.lt_of_lt_of_le fa1666.lt sz1668)
     have ch1669 : CHv Z own_EL s.vm T1668.heap := ch1652.keep K1668 (allS sf1652_b1590 all0)
     have cr1669 : CHr Z own_EL s.vm h0 s.vm T1668.heap := cr1652.trans (CHr.keep K1668 (allS sf1652_b1590 all0) ch1652)
     have sf1669_b1590 : Safe Z own_EL s.vm T1668.heap b1590 := Safe.keep K1668 (allS sf1652_b1590 all0) ch1652 sf1652_b1590
     have sf1669_b1603 : Safe Z own_EL s.vm T1668.heap b1603 := Safe.keep K1668 (allS sf1652_b1590 all0) ch1652 sf1652_b1603
     have fa1670 := fa1653.keep K1668 (allS g_b1590 all0)
     have fa1671 := fa1654.keep K1668 (ninS ne_b3_b1590 nin0)
     have fa1672 := fa1655.keep K1668 (ninS ne_b30_b1590 nin0)
     have fa1673 := fa1656.keep K1668
     have fa1674 := fa1657.keep K1668 (ninS ne_ta1227_b1590 nin0)
     have fa1675 := fa1658.keep K1668 (ninS ne_b1169_b1590 nin0)
     have fa1676 := fa1659.keep K1668 (ninS ne_b1169_b1590 nin0)
     have fa1677 := fa1660.keep K1668
     have fa1678 := fa1666.keep K1668 (ninS (Ne.symm ne_b1590_b1603) nin0)
     have z1679 : n0 ≤ T1668.heap.size := Nat.le_trans z1663 K1668.1
     have hk := Nat.le_trans hk K1668.1
     have kp1680 : Keep h0 T1668.heap [] := kp1664.trans K1668 (allS (Or.inr sz_b1590) all0)
     obtain ⟨T1681, h1681, X1681, e1681, E1681, A1681, D1681, -, st1681⟩ := newO X1668 hx hZ hown (hq hw 33 rfl) (hq hw 34 rfl) (hq hw 35 rfl) rfl (g := (mkF m 299 #[iv p0, iv p1, iv c0, iv c1, iv c2, iv 3, iv d0, iv d1, iv d2, iv 3, rv b3, rv b30, rv b1169, rv b1590, .unset, .unset] [])) rfl (hb hby at_299) (by decide) (by decide)
     obtain ⟨b1681, g1681⟩ : ∃ z, z = T1668.heap.size := ⟨_, rfl⟩
     rw [← g1681] at A1681 D1681 st1681
     have g_b1681 : n0 ≤ b1681 := Nat.le_trans z1679 (Nat.le_of_eq g1681.symm)
     have sz_b1681 : h0.size ≤ b1681 := Nat.le_trans kp1680.1 (Nat.le_of_eq g1681.symm)
     have ne_b3_b1681 : b3 ≠ b1681 := Nat.ne_of_lt (Nat.lt_of_lt_of_le fa1671.lt (Nat.le_of_eq g1681.symm))
     have ne_b30_b1681 : b30 ≠ b1681 := Nat.ne_of_lt (Nat.lt_of_lt_of_le fa1672.lt (Nat.le_of_eq g1681.symm))
     have ne_b1169_b1681 : b1169 ≠ b1681 := Nat.ne_of_lt (Nat.lt_of_lt_of_le fa1673.lt (Nat.le_of_eq g1681.symm))
     have ne_ta1227_b1681 : ta1227 ≠ b1681 := Nat.ne_of_lt (Nat.lt_of_lt_of_le fa1674.lt (Nat.le_of_eq g1681.symm))
     have ne_b1590_b1681 : b1590 ≠ b1681 := Nat.ne_of_lt (Nat.lt_of_lt_of_le A1668.lt (Nat.le_of_eq g1681.symm))
     have ne_ta1668_b1681 : ta1668 ≠ b1681 := Nat.ne_of_lt (Nat.lt_of_lt_of_le V1668.lt (Nat.le_of_eq g1681.symm))
     have ch1682 : CHv Z own_EL s.vm h1681 := ch1669.ext E1681
     have cr1682 : CHr Z own_EL s.vm h0 s.vm h1681 := cr1669.trans (CHr.ext E1681 ch1669)
     have sf1682_b1681 : Safe Z own_EL s.vm h1681 b1681 := Safe.ext E1681 ch1669 (Safe.new (Nat.le_of_eq g1681.symm))
     have fa1683 := fa1670.ext E1681
     have fa1684 := fa1671.ext E1681
     have fa1685 := fa1672.ext E1681
     have fa1686 := fa1673.ext E1681
     have fa1687 := fa1674.ext E1681
     have fa1688 := fa1675.ext E1681
     have fa1689 := fa1676.ext E1681
     have fa1690 := A1668.ext E1681
     have fa1691 := V1668.ext E1681
     have fa1692 := Fc1668.ext E1681
     have fa1693 := Fv1668.ext E1681
     have z1694 : n0 ≤ h1681.size := Nat.le_trans z1679 E1681.1
     have hk := Nat.le_trans hk E1681.1
     have kp1695 : Keep h0 h1681 [] := kp1680.ext E1681
     have fa1696 : Fld Z h1681 b1681 "com/example/fides/fides/RecordId" "table" "Ljava/lang/String;" .null := D1681 (Or.inr (hq hw 57 rfl)) (ty := (.object "java/lang/String")) (by decide)
     have fa1697 : Fld Z h1681 b1681 "com/example/fides/fides/RecordId" "key" "Ljava/lang/String;" .null := D1681 (Or.inr (hq hw 59 rfl)) (ty := (.object "java/lang/String")) (by decide)
     have G1698 : ∀ t, Steps p.tables e below (T1681.setTop (mkF m 307 #[iv p0, iv p1, iv c0, iv c1, iv c2, iv 3, iv d0, iv d1, iv d2, iv 3, rv b3, rv b30, rv b1169, rv b1590, .unset, .unset] [(.ref b1590), (.ref b1169), (.ref b1681), (.ref b1681)])) t → Steps p.tables e below (s₁.setTop (entryFrame m #[(.int p0), (.int p1)] maxLocals)) t := by
      intro t kt
      refine G1667 _ ?_
      refine st1668.trans ?_
      refine XS.astore X1668.here hx rfl (hb hby at_297) rfl rfl (l' := #[iv p0, iv p1, iv c0, iv c1, iv c2, iv 3, iv d0, iv d1, iv d2, iv 3, rv b3, rv b30, rv b1169, rv b1590, .unset, .unset]) rfl ?_
      refine st1681 _ ?_
      refine XS.dup X1681.here hx rfl (hb hby at_302) rfl rfl ?_
      refine XS.aload X1681.here hx rfl (hb hby at_303) rfl rfl ?_
      refine XS.aload X1681.here hx rfl (hb hby at_305) rfl rfl ?_
      exact kt
     obtain ⟨_, vm1699, ⟨T1699, L1699, k1699, n1699⟩, -, X1699, hS1699, gr1699, ⟨Lc1699, hQ1699, l1699, y1699, z1699, C1699⟩, st1699⟩ := X1681.specialBackS hx (y := (⟨"com/example/fides/fides/RecordId", "<init>", "(Ljava/lang/String;Ljava/lang/String;)V"⟩ : MethodName)) rfl hown (mvT hZ (hq hw 36 rfl)) (mvT hZ (hq hw 37 rfl)) (mvT hZ (hq hw 38 rfl)) (by decide) (backOfSH (s := s) (vm0 := s.vm) (W := 1) (rm7 l Z a0 hw [] b1681 b1169 b1590 ta1227 kb1227 (3 : Int32) [(.int (nar .byte (c0.toInt8.toInt32))), (.int (nar .byte (c1.toInt8.toInt32))), (.int (nar .byte (c2.toInt8.toInt32)))] h1681 n0 z1694 A1681 fa1696 fa1697 fa1686 fa1689 fa1687 g_b1681 (Ne.symm ne_b1169_b1681) (Ne.symm ne_ta1227_b1681) (by decide)) hZ (hq hw 38 rfl) (hq hw 35 rfl) (by decide) (by decide) hEL ch1682) (g := (mkF m 307 #[iv p0, iv p1, iv c0, iv c1, iv c2, iv 3, iv d0, iv d1, iv d2, iv 3, rv b3, rv b30, rv b1169, rv b1590, .unset, .unset] [(.ref b1590), (.ref b1169), (.ref b1681), (.ref b1681)])) rfl (by rw [hml]; rfl) (Steps.refl _) (a := b1681) (argsL := [(.ref b1169), (.ref b1590)]) (rest := [(.ref b1681)]) (lenOf pd_27 rfl) rfl (by show 2 * 0 + _ ≤ _; exact Nat.le_of_eq rfl) (hb hby at_307) (fun _ _ => ⟨rfl, e1681, (by decide : 9 + 4 ≤ _), (by decide : 28 + 40 ≤ _)⟩)
     dsimp only [Pt.U, Pt.locs, Pt.cells, Pt.slots] at X1699 l1699 y1699 z1699 st1699 hQ1699 hS1699 gr1699 C1699
     subst l1699 y1699 z1699
     have hS := hS.trans hS1699 (Nat.le_trans hk (by rw [← show T1681.heap = h1681 from e1681]; exact gr1699))
     have hZ : Z.Warmed39 (s.setVm T1699.vm).vm := State.Warmed39.trans hZ hS1699.1
     have hown : (s.setVm T1699.vm).vm.findClass "com/example/fides/fides/RecordIdToStringPinLaw" = some m.cls := by rw [show (s.setVm T1699.vm).vm = T1699.vm from rfl, hS1699.1.alike.findClass]; exact hown
     have X1699 : Stand p l e room_1 (s.setVm T1699.vm) m #[(.int p0), (.int p1)] below meth c T1699 _ _ _ := X1699
     have hk : T1699.heap.size ≤ T1699.heap.size := Nat.le_refl _
     have cr1700 := cr1682.trans C1699
     have ch1700 := C1699.1
     have sf1700_b1681 := C1699.safe A1681.lt sf1682_b1681
     obtain ⟨rfl, N1699q, K1699, Ft1699, Fk1699⟩ := hQ1699
     have N1699 := Fr.app N1668 N1699q
     have fa1701 := fa1683.keep K1699 (allS g_b1681 all0)
     have fa1702 := fa1684.keep K1699 (ninS ne_b3_b1681 nin0)
     have fa1703 := fa1685.keep K1699 (ninS ne_b30_b1681 nin0)
     have fa1704 := fa1686.keep K1699
     have fa1705 := fa1687.keep K1699 (ninS ne_ta1227_b1681 nin0)
     have fa1706 := fa1688.keep K1699 (ninS ne_b1169_b1681 nin0)
     have fa1707 := fa1689.keep K1699 (ninS ne_b1169_b1681 nin0)
     have fa1708 := fa1690.keep K1699
     have fa1709 := fa1691.keep K1699 (ninS ne_ta1668_b1681 nin0)
     have fa1710 := fa1692.keep K1699 (ninS ne_b1590_b1681 nin0)
     have fa1711 := fa1693.keep K1699 (ninS ne_b1590_b1681 nin0)
     have fa1712 := A1681.keep K1699
     have z1713 : n0 ≤ T1699.heap.size := Nat.le_trans z1694 K1699.1
     have kp1714 : Keep h0 T1699.heap [] := kp1695.trans K1699 (allS (Or.inr sz_b1681) all0)
     have G1715 : ∀ t, Steps p.tables e below (T1699.setTop (mkF m 310 #[iv p0, iv p1, iv c0, iv c1, iv c2, iv 3, iv d0, iv d1, iv d2, iv 3, rv b3, rv b30, rv b1169, rv b1590, .unset, .unset] [(.ref b1681)])) t → Steps p.tables e below (s₁.setTop (entryFrame m #[(.int p0), (.int p1)] maxLocals)) t := by
      intro t kt
      refine G1698 _ ?_
      refine st1699.trans ?_
      exact kt
     obtain ⟨cq1716, kq1716, q1716a, q1716b, q1716c⟩ := isOf hZ rfl fa1712
     obtain ⟨_, vm1716, ⟨T1716, L1716, k1716, n1716⟩, -, X1716, hS1716, gr1716, ⟨Lc1716, hQ1716, l1716, y1716, z1716, C1716⟩, st1716⟩ := X1699.virtualBackS hx (y := (⟨"com/example/fides/fides/RecordId", "toString", "()Ljava/lang/String;"⟩ : MethodName)) (z := (⟨"com/example/fides/fides/RecordId", "toString", "()Ljava/lang/String;"⟩ : MethodName)) hown (mvT hZ (hq hw 60 rfl)) (mvT hZ (hq hw 61 rfl)) (notFace_of_selects (args := #[]) (mvT hZ (hq hw 63 rfl))) (mvT hZ (hq hw 63 rfl)) (mvT hZ (hq hw 62 rfl)) (by decide) (backOfSH (s := s) (vm0 := T1699.vm) (W := 0) (rm11 l Z a0 hw [] b1681 b1169 ta1227 kb1227 (3 : Int32) [(.int (nar .byte (c0.toInt8.toInt32))), (.int (nar .byte (c1.toInt8.toInt32))), (.int (nar .byte (c2.toInt8.toInt32)))] b1590 ta1668 kb1668 (3 : Int32) [(.int (nar .byte (d0.toInt8.toInt32))), (.int (nar .byte (d1.toInt8.toInt32))), (.int (nar .byte (d2.toInt8.toInt32)))] (7 : Int32) [(.int (nar .byte (c0.toInt8.toInt32))), (.int (nar .byte (c1.toInt8.toInt32))), (.int (nar .byte (c2.toInt8.toInt32))), (.int (47 : Int32)), (.int (nar .byte (d0.toInt8.toInt32))), (.int (nar .byte (d1.toInt8.toInt32))), (.int (nar .byte (d2.toInt8.toInt32)))] cst fv T1699.heap n0 z1713 Ft1699 Fk1699 fa1704 fa1706 fa1707 fa1705 fa1708 fa1710 fa1711 fa1709 fa1701 (by decide) (own_mkok (by decide) (by decide) (by decide) (by decide) (Nat.le_of_ble_eq_true rfl)) (by decide) (own_mkok (by decide) (by decide) (by decide) (by decide) (Nat.le_of_ble_eq_true rfl)) (by decide) (own_mkok (by decide) (by decide) (by decide) (by decide) (Nat.le_of_ble_eq_true rfl)) (own_cr7) (by decide) rfl SS) hZ (hq hw 64 rfl) (hq hw 35 rfl) (by decide) (by decide) hEL ch1700) q1716a q1716c (g := (mkF m 310 #[iv p0, iv p1, iv c0, iv c1, iv c2, iv 3, iv d0, iv d1, iv d2, iv 3, rv b3, rv b30, rv b1169, rv b1590, .unset, .unset] [(.ref b1681)])) rfl (by rw [hml]; rfl) (Steps.refl _) (argsL := []) (rest := []) (lenOf pd_23 rfl) rfl (by show 2 * 0 + _ ≤ _; exact Nat.le_of_eq rfl) (hb hby at_310) (fun _ _ => ⟨rfl, rfl, (by decide : 13 + 6 ≤ _), (by decide : 68 + 40 ≤ _)⟩)
     dsimp only [Pt.U, Pt.locs, Pt.cells, Pt.slots] at X1716 l1716 y1716 z1716 st1716 hQ1716 hS1716 gr1716 C1716
     subst l1716 y1716 z1716
     have hS := hS.trans hS1716 (Nat.le_trans hk (by rw [← show T1699.heap = T1699.heap from rfl]; exact gr1716))
     have hZ : Z.Warmed39 (s.setVm T1716.vm).vm := State.Warmed39.trans hZ hS1716.1
     have hown : (s.setVm T1716.vm).vm.findClass "com/example/fides/fides/RecordIdToStringPinLaw" = some m.cls := by rw [show (s.setVm T1716.vm).vm = T1716.vm from rfl, hS1716.1.alike.findClass]; exact hown
     have X1716 : Stand p l e room_1 (s.setVm T1716.vm) m #[(.int p0), (.int p1)] below meth c T1716 _ _ _ := X1716
     have hk : T1716.heap.size ≤ T1716.heap.size := Nat.le_refl _
     have cr1717 := cr1700.trans C1716
     have ch1717 := C1716.1
     have sf1717_b1681 := C1716.safe fa1712.lt sf1700_b1681
     obtain ⟨s1716, t1716, kb1716, rfl, N1716q, K1716, A1716, Fc1716, Fv1716, V1716⟩ := hQ1716
     have N1716 := Fr.app N1699 N1716q
     have fa1718 := fa1701.keep K1716 all0
     have fa1719 := fa1702.keep K1716 nin0
     have fa1720 := fa1703.keep K1716 nin0
     have fa1721 := fa1704.keep K1716
     have fa1722 := fa1705.keep K1716 nin0
     have fa1723 := fa1706.keep K1716 nin0
     have fa1724 := fa1707.keep K1716 nin0
     have fa1725 := fa1708.keep K1716
     have fa1726 := fa1709.keep K1716 nin0
     have fa1727 := fa1710.keep K1716 nin0
     have fa1728 := fa1711.keep K1716 nin0
     have fa1729 := fa1712.keep K1716
     have fa1730 := Ft1699.keep K1716 nin0
     have fa1731 := Fk1699.keep K1716 nin0
     have z1732 : n0 ≤ T1716.heap.size := Nat.le_trans z1713 K1716.1
     have kp1733 : Keep h0 T1716.heap [] := kp1714.trans K1716 all0
     have G1734 : ∀ t, Steps p.tables e below (T1716.setTop (mkF m 324 #[iv p0, iv p1, iv c0, iv c1, iv c2, iv 3, iv d0, iv d1, iv d2, iv 3, rv b3, rv b30, rv b1169, rv b1590, rv s1716, iv 7] [])) t → Steps p.tables e below (s₁.setTop (entryFrame m #[(.int p0), (.int p1)] maxLocals)) t := by
      intro t kt
      refine G1715 _ ?_
      refine st1716.trans ?_
      refine XS.astore X1716.here hx rfl (hb hby at_313) rfl rfl (l' := #[iv p0, iv p1, iv c0, iv c1, iv c2, iv 3, iv d0, iv d1, iv d2, iv 3, rv b3, rv b30, rv b1169, rv b1590, rv s1716, .unset]) rfl ?_
      refine XS.iload X1716.here hx rfl (hb hby at_315) rfl ?_
      refine XS.iconst X1716.here hx rfl (hb hby at_317) ?_
      refine XS.iadd X1716.here hx rfl (hb hby at_318) rfl ?_
      show Steps p.tables e below (T1716.setTop (mkF m 319 #[iv p0, iv p1, iv c0, iv c1, iv c2, iv 3, iv d0, iv d1, iv d2, iv 3, rv b3, rv b30, rv b1169, rv b1590, rv s1716, .unset] [(.int (4 : Int32))])) _
      refine XS.iload X1716.here hx rfl (hb hby at_319) rfl ?_
      refine XS.iadd X1716.here hx rfl (hb hby at_321) rfl ?_
      refine XS.istore X1716.here hx rfl (hb hby at_322) rfl (l' := #[iv p0, iv p1, iv c0, iv c1, iv c2, iv 3, iv d0, iv d1, iv d2, iv 3, rv b3, rv b30, rv b1169, rv b1590, rv s1716, iv 7]) rfl ?_
      exact kt
     obtain ⟨T1735, L1735, X1735, e1735, N1735, K1735⟩ := own_tail (l := l) (Z := Z) (a0 := a0) (iv p0) (iv p1) (iv c0) (iv c1) (iv c2) (iv d0) (iv d1) (iv d2) (iv 3) (rv b1169) (rv b1590) (3 : Int32) (7 : Int32) b3 b30 s1716 t1716 kb1716 (7 : Int32) [(.int (nar .byte (c0.toInt8.toInt32))), (.int (nar .byte (c1.toInt8.toInt32))), (.int (nar .byte (c2.toInt8.toInt32))), (.int (47 : Int32)), (.int (nar .byte (d0.toInt8.toInt32))), (.int (nar .byte (d1.toInt8.toInt32))), (.int (nar .byte (d2.toInt8.toInt32)))] k3 (3 : Int32) [(.int c0), (.int c1), (.int c2)] k30 (3 : Int32) [(.int d0), (.int d1), (.int d2)] cst fv X1716 hx hZ hw hby hml hown rfl N1716 z1732 A1716 Fc1716 Fv1716 V1716 fa1719 fa1720 fa1718 (by decide) (by decide) (by decide) (own_atT (xx := (nar .byte (c0.toInt8.toInt32))) (cc := c0) (by decide) (by decide) (by decide) rfl (own_lat c0 hb_c0 hp_c0) (by decide) rfl (by decide)) (own_atT (xx := (nar .byte (c1.toInt8.toInt32))) (cc := c1) (by decide) (by decide) (by decide) rfl (own_lat c1 hb_c1 hp_c1) (by decide) rfl (by decide)) (own_atT (xx := (nar .byte (c2.toInt8.toInt32))) (cc := c2) (by decide) (by decide) (by decide) rfl (own_lat c2 hb_c2 hp_c2) (by decide) rfl (by decide)) (own_atM (xx := (47 : Int32)) (by decide) (by decide) (by decide) rfl (by decide) (by decide) (by decide)) (own_atK (xx := (nar .byte (d0.toInt8.toInt32))) (cc := d0) (by decide) (by decide) (by decide) rfl (own_lat d0 hb_d0 hp_d0) (by decide) rfl (by decide) (by decide)) (own_atK (xx := (nar .byte (d1.toInt8.toInt32))) (cc := d1) (by decide) (by decide) (by decide) rfl (own_lat d1 hb_d1 hp_d1) (by decide) rfl (by decide) (by decide)) (own_atK (xx := (nar .byte (d2.toInt8.toInt32))) (cc := d2) (by decide) (by decide) (by decide) rfl (own_lat d2 hb_d2 hp_d2) (by decide) rfl (by decide) (by decide)) SS
     have G1736 : ∀ t, Steps p.tables e below (T1735.setTop (mkF m 461 #[iv p0, iv p1, iv c0, iv c1, iv c2, iv 3, iv d0, iv d1, iv d2, iv 3, rv b3, rv b30, rv b1169, rv b1590, rv s1716, iv 7] [])) t → Steps p.tables e below (s₁.setTop (entryFrame m #[(.int p0), (.int p1)] maxLocals)) t := fun t kt => G1734 t (K1735 t kt)
     obtain ⟨fs, hr, hrun, hended, hRW⟩ := X1735.leaveW (s := s) hS (by rw [show T1735.heap = T1716.heap from e1735]; exact hk) (v := some (.int (1 : Int32))) (fun h => by rw [Bd.returns] at h; cases h) (BodyLoose.notSynchronized Bd)
     refine ⟨_, _, G1736 _ ?_, hrun, hended, _, _, rfl, ?_, hRW.1, hRW.2.1, hRW.2.2.1, hRW.2.2.2.mono (by decide) (by decide)⟩
     ·skip
      refine XS.iconst X1735.here hx rfl (hb hby at_461) ?_
      refine XS.goto X1735.here hx rfl (pc0 := 462) (pc' := 466) rfl (hb hby at_462) (by decide) (by decide) ?_
      exact retN X1735 hx (t := .boolean) Bd.returns (by simp) (hb hby at_466) hr
     ·show Q0 Z p0 p1 cst fv h0 n0 _ T1735.heap _
      rw [e1735]
      exact ⟨rfl, N1735⟩
set_option maxRecDepth 65536 in
set_option maxHeartbeats 40000000 in
theorem comes_1 {Post : Tables → Env → Array Value → State → Outcome → State → Prop} (hpost : ∀ tb e args s v u, (limb_1_1.after args s (.returned v) u = true ∧ limb_1_2.after args s (.returned v) u = true ∧ True) → ReturnedEndW s (.returned v) u (Jvm.fieldLocs frame_1_writes args s ++ Jvm.arrayLocs frame_1_arrays args s ++ Jvm.staticLocs frame_1_statics s) 48 4352 → Post tb e args s (.returned v) u) :
    ArmFor flags0 classFile x code maxLocals ret World_1 tables_1 room_1 Calls_1 rest_1 Pre_1 Post := by
  intro l hfl _ _ p e ha hc hk s m args below hf hA hF happ hP
  obtain ⟨hcalls, hrest, hpre⟩ := hP
  obtain ⟨-, -, -, hnamed, -, -, -, hat⟩ := (Spec.applies_iff hf).mp happ
  obtain ⟨hg, hn⟩ := and_e (Cond.before_iff.mp (show (Jvm.Cond.and given_1 narrow_1).before args s = true from hpre))
  obtain ⟨g1, g2⟩ := and_e hg
  obtain ⟨g3, g4⟩ := and_e g2
  obtain ⟨w0, w1, rfl⟩ : ∃ w0 w1 : Value, args = #[w0, w1] := by
    have hs : args.size = 2 := by simpa [Cond.value, given_1] using g1
    obtain ⟨L⟩ := args
    match L, hs with
    | [w0, w1], _ => exact ⟨w0, w1, rfl⟩
  have hw := fun d (hd : d ∈ tables_1) => atoms_spec (ws := Jvm.Cond.code x code maxLocals ret :: tables_1) hat d (List.mem_cons_of_mem _ hd)
  have hfit : Fit s := fun {y c} hc i hi => by
    obtain ⟨ha, rfl⟩ := Array.getElem?_eq_some_iff.mp hc
    have q := List.all_eq_true.mp ((Array.all_eq_true_iff_forall_mem.mp hF) _ (Array.getElem_mem ha)) i (List.mem_range.mpr hi)
    simpa [Array.getElem?_eq_getElem hi] using q
  obtain ⟨hsets, hown0⟩ := atoms_of _ (rest_1_c_eq ▸ (show rest_1_c.before _ s = true from hrest))
  have hr0 := Cond.before_iff.mp hown0
  obtain ⟨i0, ei0⟩ := is_v g3
  obtain rfl : w0 = (.int i0) := Option.some.inj ei0
  obtain ⟨i1, ei1⟩ := is_v g4
  obtain rfl : w1 = (.int i1) := Option.some.inj ei1
  obtain ⟨cst, evc⟩ := is_v (Cond.before_iff.mp (hsets _ (List.mem_of_getElem? (i := 1) rfl)))
  have SC := Sta.start evc (Or.inl (hsets _ (List.mem_of_getElem? (i := 0) rfl)))
  have hcst : ¬ (cst = (0 : Int32)) := fun q => by
    have z := not_v (Cond.before_iff.mp (hsets _ (List.mem_of_getElem? (i := 2) rfl)))
    rw [Cond.eq_ints evc (Term.int_eval _), decide_eq_true q] at z
    cases z
  obtain ⟨fv, evf, hfv⟩ := isR_v (Cond.before_iff.mp (hsets _ (List.mem_of_getElem? (i := 8) rfl)))
  have SF := Sta.start evf (Or.inl (hsets _ (List.mem_of_getElem? (i := 7) rfl)))
  have SS : Sts s cst fv := ⟨SC, hcst, trivial, trivial, trivial, SF, hfv⟩
  have O0 := Old.start s
  have CHS : CHv s own_EL s.vm s.heap := CHv.start (own_ew hw) (fun q hq => hcalls.1 q (own_sub q hq)) (hsets _ (List.mem_of_getElem? (i := 2) rfl)) (hq hw 19 rfl) (hq hw 2 rfl)
  obtain ⟨n, o, h1, h2, h3, _, L, rfl, ⟨rfl, N⟩, hq⟩ := rm0 l s _ hw tables_1 i0 i1 cst fv s.heap s.heap.size (Nat.le_refl _) O0 SS p e ha hc hk s m _ below hf ((Spec.applies_iff_loose hf).mp happ).1 ⟨rfl, State.Warmed39.refl s, rfl, CHS⟩ trivial
  refine ⟨n, _, h1, h2, h3, hpost _ _ _ _ _ _ ⟨Cond.after_iff.mpr rfl, Cond.after_iff.mpr (eq_i res_at (Term.int_eval (1)) rfl), trivial⟩ ⟨hq.1, hq.2.1, hq.2.2.1, (hq.2.2.2.sift fun y hy => Or.inr (N y hy)).mono (by decide) (by decide)⟩⟩
theorem main_1_1 : Claimed_1_1 := comes_1 fun _ _ _ _ _ _ h hF => ⟨h.1, hF⟩
theorem main_1_2 : Claimed_1_2 := comes_1 fun _ _ _ _ _ _ h hF => ⟨h.2.1, hF⟩
end Jvm.Pilot.@@N@@
namespace Jvm.Pilot.@@N@@
open Jvm Jvm.ClassFile Sem Op Lib Jvm.Free Jvm.Stand Jvm.Pilot.@@N@@.Jvm.D
/-! MADE BY PROGRAM (witnessworld.py) out of the Statement's table words and the real class files: 28 classes; the members and pool entries that the words name. The judged class is class 1, her method 1. -/
namespace start1
open Jvm.ClassFile
def u (s : String) : CpInfo := .utf8 (stringToUtf16 s)
/-- a pool by its gaps: so many unusable entries, then the entry; so many at the end -/
def gap : Nat → List CpInfo → List CpInfo
  | 0, r => r
  | n + 1, r => .unusable :: gap n r
def poolList (es : List (Nat × CpInfo)) (last : Nat) : List CpInfo := es.foldr (fun e r => gap e.1 (e.2 :: r)) (gap last [])
def pool (es : List (Nat × CpInfo)) (last : Nat) : Array CpInfo := ⟨poolList es last⟩
def fileOf (pool : Array CpInfo) (this : Nat) (attrs : Array Attribute := #[]) (ms : Array MethodInfo := #[]) (fl : Nat := 33) (sup : Nat := 0) (ifs : Array Nat := #[]) (fds : Array FieldInfo := #[]) : ClassFile where
  minorVersion := 0
  majorVersion := 65
  constantPool := pool
  accessFlags := fl
  thisClass := this
  superClass := sup
  interfaces := ifs
  fields := fds
  methods := ms
  attributes := attrs
def plain (name : String) (sup : Option ClassId) : Class where
  name := name
  kind := .ordinary
  loader := none
  accessFlags := 33
  super := sup
  interfaces := #[]
  cf := none
  fields := #[]
  methods := #[]
  instanceTypes := #[]
  staticTypes := #[]
  resolved := #[]
  callSites := []
  init := .initialized
  statics := none
  mirror := none

def pool0 : Array CpInfo := pool [(5, u "<init>"), (0, u "()V"), (1, .class_ 10), (1, u "java/lang/Object")] 113

def k0c0 : Code := { maxStack := 0, maxLocals := 1, code := object_method_1_code, exceptionTable := #[], attributes := #[] }
def k0m0 : Method := { name := "<init>", desc := "()V", sig := { parameters := [], returnType := none }, accessFlags := 1, code := some k0c0 }
/-- java/lang/Object -/
def k0 : Class := { plain "java/lang/Object" none with
  accessFlags := 33
  interfaces := #[]
  cf := some (fileOf pool0 8 #[] #[{ accessFlags := 1, nameIndex := 5, descriptorIndex := 6, attributes := #[] }] 33 0 #[] #[])
  fields := #[]
  methods := #[k0m0]
  instanceTypes := #[]
  staticTypes := #[]
  resolved := Array.replicate 124 none
  statics := none }

def pool1 : Array CpInfo := pool [(2, .class_ 4), (1, u "java/lang/Object"), (0, u "<init>"), (0, u "()V"), (0, .class_ 8), (0, u "java/lang/String"), (0, .methodref 7 10), (0, .nameAndType 5 11), (0, u "([C)V"), (0, .class_ 13), (0, u "com/example/fides/fides/RecordId"), (0, .methodref 12 15), (0, .nameAndType 5 16), (0, u "(Ljava/lang/String;Ljava/lang/String;)V"), (0, .methodref 12 18), (0, .nameAndType 19 20), (0, u "toString"), (0, u "()Ljava/lang/String;"), (0, .methodref 7 22), (0, .nameAndType 23 24), (0, u "length"), (0, u "()I"), (0, .methodref 26 27), (0, .class_ 28), (0, .nameAndType 29 30), (0, u "com/example/fides/fides/RecordIdToStringPinLaw"), (0, u "at"), (0, u "(Ljava/lang/String;III[C[C)Z"), (0, .methodref 7 32), (0, .nameAndType 33 34), (0, u "charAt"), (0, u "(I)C"), (2, u "law"), (0, u "(II)Z")] 5

def k1m0 : Method := { name := "<init>", desc := "()V", sig := { parameters := [], returnType := none }, accessFlags := 1, code := none }
def k1c1 : Code := { maxStack := 6, maxLocals := 16, code := code, exceptionTable := #[], attributes := #[] }
def k1m1 : Method := { name := "law", desc := "(II)Z", sig := { parameters := [.int, .int], returnType := some .boolean }, accessFlags := 9, code := some k1c1 }
def k1c2 : Code := { maxStack := 3, maxLocals := 7, code := method_3_code, exceptionTable := #[], attributes := #[] }
def k1m2 : Method := { name := "at", desc := "(Ljava/lang/String;III[C[C)Z", sig := { parameters := [(.object "java/lang/String"), .int, .int, .int, (.array .char), (.array .char)], returnType := some .boolean }, accessFlags := 10, code := some k1c2 }
/-- com/example/fides/fides/RecordIdToStringPinLaw -/
def k1 : Class := { plain "com/example/fides/fides/RecordIdToStringPinLaw" (some 0) with
  accessFlags := 49
  interfaces := #[]
  cf := some (fileOf pool1 26 #[] #[{ accessFlags := 1, nameIndex := 5, descriptorIndex := 6, attributes := #[] }, { accessFlags := 9, nameIndex := 37, descriptorIndex := 38, attributes := #[] }, { accessFlags := 10, nameIndex := 29, descriptorIndex := 30, attributes := #[] }] 49 2 #[] #[])
  fields := #[]
  methods := #[k1m0, k1m1, k1m2]
  instanceTypes := #[]
  staticTypes := #[]
  resolved := Array.replicate 44 none
  statics := none }

def pool2 : Array CpInfo := pool [(1, .class_ 2), (0, u "java/io/Serializable"), (0, .class_ 4), (0, u "java/lang/Object")] 2

/-- java/io/Serializable -/
def k2 : Class := { plain "java/io/Serializable" (some 0) with
  accessFlags := 1537
  interfaces := #[]
  cf := some (fileOf pool2 1 #[] #[] 1537 3 #[] #[])
  fields := #[]
  methods := #[]
  instanceTypes := #[]
  staticTypes := #[]
  resolved := Array.replicate 7 none
  statics := none }

def pool3 : Array CpInfo := pool [(1, .class_ 2), (0, u "java/lang/Comparable"), (0, .class_ 4), (0, u "java/lang/Object")] 7

/-- java/lang/Comparable -/
def k3 : Class := { plain "java/lang/Comparable" (some 0) with
  accessFlags := 1537
  interfaces := #[]
  cf := some (fileOf pool3 1 #[] #[] 1537 3 #[] #[])
  fields := #[]
  methods := #[]
  instanceTypes := #[]
  staticTypes := #[]
  resolved := Array.replicate 12 none
  statics := none }

def pool4 : Array CpInfo := pool [(2, .class_ 4), (1, u "java/lang/CharSequence"), (42, .class_ 48), (0, u "java/lang/CharSequence$1CodePointIterator"), (10, .class_ 60), (0, u "java/lang/CharSequence$1CharIterator"), (5, .class_ 67), (0, u "java/lang/Object")] 63

/-- java/lang/CharSequence -/
def k4 : Class := { plain "java/lang/CharSequence" (some 0) with
  accessFlags := 1537
  interfaces := #[]
  cf := some (fileOf pool4 2 #[.nestMembers #[47, 59]] #[] 1537 66 #[] #[])
  fields := #[]
  methods := #[]
  instanceTypes := #[]
  staticTypes := #[]
  resolved := Array.replicate 131 none
  statics := none }

def pool5 : Array CpInfo := pool [(1, .class_ 2), (0, u "java/lang/constant/Constable"), (0, .class_ 4), (0, u "java/lang/Object")] 6

/-- java/lang/constant/Constable -/
def k5 : Class := { plain "java/lang/constant/Constable" (some 0) with
  accessFlags := 1537
  interfaces := #[]
  cf := some (fileOf pool5 1 #[] #[] 1537 3 #[] #[])
  fields := #[]
  methods := #[]
  instanceTypes := #[]
  staticTypes := #[]
  resolved := Array.replicate 11 none
  statics := none }

def pool6 : Array CpInfo := pool [(1, .class_ 2), (0, u "java/lang/constant/ConstantDesc"), (0, .class_ 4), (0, u "java/lang/Object")] 32

/-- java/lang/constant/ConstantDesc -/
def k6 : Class := { plain "java/lang/constant/ConstantDesc" (some 0) with
  accessFlags := 1537
  interfaces := #[]
  cf := some (fileOf pool6 1 #[] #[] 1537 3 #[] #[])
  fields := #[]
  methods := #[]
  instanceTypes := #[]
  staticTypes := #[]
  resolved := Array.replicate 37 none
  statics := none }

def pool7 : Array CpInfo := pool [(1, .methodref 2 3), (0, .class_ 4), (0, .nameAndType 5 6), (0, u "java/lang/Object"), (0, u "<init>"), (0, u "()V"), (0, .string 8), (0, u ""), (0, .fieldref 10 11), (0, .class_ 12), (0, .nameAndType 13 14), (0, u "java/lang/String"), (0, u "value"), (0, u "[B"), (0, .fieldref 10 16), (0, .nameAndType 17 18), (0, u "coder"), (0, u "B"), (2, u "hash"), (0, u "I"), (2, u "hashIsZero"), (0, u "Z"), (0, .methodref 10 28), (0, .nameAndType 5 29), (0, u "([CIILjava/lang/Void;)V"), (8, .fieldref 10 39), (0, .nameAndType 40 26), (0, u "COMPACT_STRINGS"), (1, .class_ 44), (1, u "java/lang/StringUTF16"), (0, u "compress"), (1, .methodref 42 48), (0, .nameAndType 49 50), (0, u "coderFromArrayLen"), (0, u "([BI)B"), (3, .methodref 55 56), (0, .class_ 57), (0, .nameAndType 58 59), (0, u "java/util/Arrays"), (0, u "copyOfRange"), (0, u "([BII)[B"), (47, .class_ 109), (1, u "java/lang/StringLatin1"), (32, u "()Z"), (34, .methodref 42 178), (0, .nameAndType 45 179), (0, u "([CII)[B"), (13, .class_ 195), (1, u "java/lang/System"), (16, .methodref 193 213), (0, .nameAndType 214 215), (0, u "arraycopy"), (0, u "(Ljava/lang/Object;ILjava/lang/Object;II)V"), (118, u "()I"), (0, .methodref 10 336), (0, .nameAndType 17 337), (0, u "()B"), (2, u "()[B"), (22, u "([BI)C"), (27, u "(II)V"), (35, u "(I)C"), (61, .methodref 10 490), (0, .nameAndType 5 491), (0, u "(Ljava/lang/AbstractStringBuilder;Ljava/lang/Void;)V"), (0, .methodref 10 493), (0, .nameAndType 494 142), (0, u "isLatin1"), (0, .methodref 107 496), (0, .nameAndType 497 363), (0, u "charAt"), (3, u "checkIndex"), (4, .nameAndType 507 334), (0, u "length"), (24, u "getBytes"), (16, .methodref 550 506), (0, .class_ 551), (0, u "java/lang/AbstractStringBuilder"), (0, .methodref 550 553), (0, .nameAndType 554 340), (0, u "getValue"), (20, .class_ 576), (0, u "java/lang/CharSequence"), (22, u "CASE_INSENSITIVE_ORDER"), (0, u "Ljava/util/Comparator;"), (91, u "isEmpty"), (128, u "([BIB)V"), (188, u "([C)V"), (36, .methodref 550 493), (5, .fieldref 1054 1055), (0, .class_ 1056), (0, .nameAndType 1057 1058), (0, u "jdk/internal/util/Preconditions"), (0, u "SIOOBE_FORMATTER"), (0, u "Ljava/util/function/BiFunction;"), (0, .methodref 1054 1060), (0, .nameAndType 501 1061), (0, u "(IILjava/util/function/BiFunction;)I"), (39, u "serialPersistentFields"), (0, u "[Ljava/io/ObjectStreamField;"), (0, .class_ 1104), (0, u "java/lang/String$CaseInsensitiveComparator"), (1, .class_ 1107), (0, u "java/io/Serializable"), (0, .class_ 1109), (0, u "java/lang/Comparable"), (0, .class_ 1111), (0, u "java/lang/constant/Constable"), (0, .class_ 1113), (0, u "java/lang/constant/ConstantDesc"), (2, u "serialVersionUID"), (0, u "J"), (3, u "REPL"), (0, u "C"), (2, u "LATIN1"), (1, u "UTF16"), (105, u "(Ljava/lang/StringBuilder;)V")] 217

def k7m0 : Method := { name := "<init>", desc := "()V", sig := { parameters := [], returnType := none }, accessFlags := 1, code := none }
def k7c1 : Code := { maxStack := 5, maxLocals := 2, code := jdk_42_method_3_code, exceptionTable := #[], attributes := #[] }
def k7m1 : Method := { name := "<init>", desc := "([C)V", sig := { parameters := [(.array .char)], returnType := none }, accessFlags := 1, code := some k7c1 }
def k7c2 : Code := { maxStack := 3, maxLocals := 2, code := jdk_42_method_53_code, exceptionTable := #[], attributes := #[] }
def k7m2 : Method := { name := "<init>", desc := "(Ljava/lang/StringBuilder;)V", sig := { parameters := [(.object "java/lang/StringBuilder")], returnType := none }, accessFlags := 1, code := some k7c2 }
def k7c3 : Code := { maxStack := 2, maxLocals := 1, code := jdk_42_method_54_code, exceptionTable := #[], attributes := #[] }
def k7m3 : Method := { name := "length", desc := "()I", sig := { parameters := [], returnType := some .int }, accessFlags := 1, code := some k7c3 }
def k7c4 : Code := { maxStack := 1, maxLocals := 1, code := jdk_42_method_55_code, exceptionTable := #[], attributes := #[] }
def k7m4 : Method := { name := "isEmpty", desc := "()Z", sig := { parameters := [], returnType := some .boolean }, accessFlags := 1, code := some k7c4 }
def k7c5 : Code := { maxStack := 2, maxLocals := 2, code := jdk_42_method_56_code, exceptionTable := #[], attributes := #[] }
def k7m5 : Method := { name := "charAt", desc := "(I)C", sig := { parameters := [.int], returnType := some .char }, accessFlags := 1, code := some k7c5 }
def k7c6 : Code := { maxStack := 5, maxLocals := 4, code := jdk_42_method_147_code, exceptionTable := #[], attributes := #[] }
def k7m6 : Method := { name := "getBytes", desc := "([BIB)V", sig := { parameters := [(.array .byte), .int, .byte], returnType := none }, accessFlags := 0, code := some k7c6 }
def k7c7 : Code := { maxStack := 4, maxLocals := 6, code := jdk_42_method_149_code, exceptionTable := #[], attributes := #[] }
def k7m7 : Method := { name := "<init>", desc := "([CIILjava/lang/Void;)V", sig := { parameters := [(.array .char), .int, .int, (.object "java/lang/Void")], returnType := none }, accessFlags := 2, code := some k7c7 }
def k7c8 : Code := { maxStack := 5, maxLocals := 5, code := jdk_42_method_150_code, exceptionTable := #[], attributes := #[] }
def k7m8 : Method := { name := "<init>", desc := "(Ljava/lang/AbstractStringBuilder;Ljava/lang/Void;)V", sig := { parameters := [(.object "java/lang/AbstractStringBuilder"), (.object "java/lang/Void")], returnType := none }, accessFlags := 0, code := some k7c8 }
def k7c9 : Code := { maxStack := 1, maxLocals := 1, code := jdk_42_method_152_code, exceptionTable := #[], attributes := #[] }
def k7m9 : Method := { name := "coder", desc := "()B", sig := { parameters := [], returnType := some .byte }, accessFlags := 0, code := some k7c9 }
def k7c10 : Code := { maxStack := 1, maxLocals := 1, code := jdk_42_method_154_code, exceptionTable := #[], attributes := #[] }
def k7m10 : Method := { name := "isLatin1", desc := "()Z", sig := { parameters := [], returnType := some .boolean }, accessFlags := 0, code := some k7c10 }
def k7c11 : Code := { maxStack := 3, maxLocals := 2, code := jdk_42_method_155_code, exceptionTable := #[], attributes := #[] }
def k7m11 : Method := { name := "checkIndex", desc := "(II)V", sig := { parameters := [.int, .int], returnType := none }, accessFlags := 8, code := some k7c11 }
/-- java/lang/String -/
def k7 : Class := { plain "java/lang/String" (some 0) with
  accessFlags := 49
  interfaces := #[2, 3, 4, 5, 6]
  cf := some (fileOf pool7 10 #[.nestMembers #[1103]] #[{ accessFlags := 1, nameIndex := 5, descriptorIndex := 6, attributes := #[] }, { accessFlags := 1, nameIndex := 5, descriptorIndex := 1010, attributes := #[] }, { accessFlags := 1, nameIndex := 5, descriptorIndex := 1233, attributes := #[] }, { accessFlags := 1, nameIndex := 507, descriptorIndex := 334, attributes := #[] }, { accessFlags := 1, nameIndex := 692, descriptorIndex := 142, attributes := #[] }, { accessFlags := 1, nameIndex := 497, descriptorIndex := 427, attributes := #[] }, { accessFlags := 0, nameIndex := 532, descriptorIndex := 821, attributes := #[] }, { accessFlags := 2, nameIndex := 5, descriptorIndex := 29, attributes := #[] }, { accessFlags := 0, nameIndex := 5, descriptorIndex := 491, attributes := #[] }, { accessFlags := 0, nameIndex := 17, descriptorIndex := 337, attributes := #[] }, { accessFlags := 0, nameIndex := 494, descriptorIndex := 142, attributes := #[] }, { accessFlags := 8, nameIndex := 501, descriptorIndex := 391, attributes := #[] }] 49 2 #[1106, 1108, 575, 1110, 1112] #[{ accessFlags := 18, nameIndex := 13, descriptorIndex := 14, attributes := #[] }, { accessFlags := 18, nameIndex := 17, descriptorIndex := 18, attributes := #[] }, { accessFlags := 2, nameIndex := 21, descriptorIndex := 22, attributes := #[] }, { accessFlags := 2, nameIndex := 25, descriptorIndex := 26, attributes := #[] }, { accessFlags := 26, nameIndex := 1116, descriptorIndex := 1117, attributes := #[] }, { accessFlags := 24, nameIndex := 40, descriptorIndex := 26, attributes := #[] }, { accessFlags := 26, nameIndex := 1101, descriptorIndex := 1102, attributes := #[] }, { accessFlags := 26, nameIndex := 1121, descriptorIndex := 1122, attributes := #[] }, { accessFlags := 25, nameIndex := 599, descriptorIndex := 600, attributes := #[] }, { accessFlags := 24, nameIndex := 1125, descriptorIndex := 18, attributes := #[] }, { accessFlags := 24, nameIndex := 1127, descriptorIndex := 18, attributes := #[] }])
  fields := #[{ name := "value", type := (.array .byte), accessFlags := 18, slot := 0, constantValue := 0 }, { name := "coder", type := .byte, accessFlags := 18, slot := 1, constantValue := 0 }, { name := "hash", type := .int, accessFlags := 2, slot := 2, constantValue := 0 }, { name := "hashIsZero", type := .boolean, accessFlags := 2, slot := 3, constantValue := 0 }, { name := "serialVersionUID", type := .long, accessFlags := 26, slot := 0, constantValue := 0 }, { name := "COMPACT_STRINGS", type := .boolean, accessFlags := 24, slot := 1, constantValue := 0 }, { name := "serialPersistentFields", type := (.array (.object "java/io/ObjectStreamField")), accessFlags := 26, slot := 2, constantValue := 0 }, { name := "REPL", type := .char, accessFlags := 26, slot := 3, constantValue := 0 }, { name := "CASE_INSENSITIVE_ORDER", type := (.object "java/util/Comparator"), accessFlags := 25, slot := 4, constantValue := 0 }, { name := "LATIN1", type := .byte, accessFlags := 24, slot := 5, constantValue := 0 }, { name := "UTF16", type := .byte, accessFlags := 24, slot := 6, constantValue := 0 }]
  methods := #[k7m0, k7m1, k7m2, k7m3, k7m4, k7m5, k7m6, k7m7, k7m8, k7m9, k7m10, k7m11]
  instanceTypes := #[(.array .byte), .byte, .int, .boolean]
  staticTypes := #[.long, .boolean, (.array (.object "java/io/ObjectStreamField")), .char, (.object "java/util/Comparator"), .byte, .byte]
  resolved := Array.replicate 1451 none
  statics := some 0 }

def pool8 : Array CpInfo := pool [(6, .class_ 8), (1, u "java/lang/Object"), (0, u "<init>"), (0, u "()V"), (1, .class_ 14), (1, u "java/lang/StringUTF16"), (31, u "$assertionsDisabled"), (0, u "Z"), (13, u "HI_BYTE_SHIFT"), (0, u "I"), (2, u "LO_BYTE_SHIFT"), (49, .methodref 12 116), (0, .nameAndType 117 118), (0, u "compress"), (0, u "([CI[BII)I"), (3, u "([CII)[B"), (138, u "coderFromArrayLen"), (0, u "([BI)B"), (106, .class_ 371), (1, u "java/lang/StringUTF16$LinesSpliterator"), (58, u "MAX_LENGTH"), (196, .class_ 628), (0, u "java/lang/StringUTF16$CodePointsSpliterator"), (0, .class_ 630), (0, u "java/lang/StringUTF16$CharsSpliterator")] 4

def k8m0 : Method := { name := "<init>", desc := "()V", sig := { parameters := [], returnType := none }, accessFlags := 0, code := none }
def k8c1 : Code := { maxStack := 2, maxLocals := 2, code := jdk_52_method_15_code, exceptionTable := #[], attributes := #[] }
def k8m1 : Method := { name := "coderFromArrayLen", desc := "([BI)B", sig := { parameters := [(.array .byte), .int], returnType := some .byte }, accessFlags := 8, code := some k8c1 }
def k8c2 : Code := { maxStack := 5, maxLocals := 6, code := jdk_52_method_16_code, exceptionTable := #[], attributes := #[] }
def k8m2 : Method := { name := "compress", desc := "([CII)[B", sig := { parameters := [(.array .char), .int, .int], returnType := some (.array .byte) }, accessFlags := 9, code := some k8c2 }
def k8c3 : Code := { maxStack := 3, maxLocals := 7, code := jdk_52_method_21_code, exceptionTable := #[], attributes := #[] }
def k8m3 : Method := { name := "compress", desc := "([CI[BII)I", sig := { parameters := [(.array .char), .int, (.array .byte), .int, .int], returnType := some .int }, accessFlags := 9, code := some k8c3 }
/-- java/lang/StringUTF16 -/
def k8 : Class := { plain "java/lang/StringUTF16" (some 0) with
  accessFlags := 48
  interfaces := #[]
  cf := some (fileOf pool8 12 #[.nestMembers #[627, 629, 369]] #[{ accessFlags := 0, nameIndex := 9, descriptorIndex := 10, attributes := #[] }, { accessFlags := 8, nameIndex := 261, descriptorIndex := 262, attributes := #[] }, { accessFlags := 9, nameIndex := 117, descriptorIndex := 122, attributes := #[] }, { accessFlags := 9, nameIndex := 117, descriptorIndex := 118, attributes := #[] }] 48 6 #[] #[{ accessFlags := 26, nameIndex := 61, descriptorIndex := 62, attributes := #[] }, { accessFlags := 26, nameIndex := 65, descriptorIndex := 62, attributes := #[] }, { accessFlags := 24, nameIndex := 430, descriptorIndex := 62, attributes := #[] }, { accessFlags := 4120, nameIndex := 46, descriptorIndex := 47, attributes := #[] }])
  fields := #[{ name := "HI_BYTE_SHIFT", type := .int, accessFlags := 26, slot := 0, constantValue := 0 }, { name := "LO_BYTE_SHIFT", type := .int, accessFlags := 26, slot := 1, constantValue := 0 }, { name := "MAX_LENGTH", type := .int, accessFlags := 24, slot := 2, constantValue := 0 }, { name := "$assertionsDisabled", type := .boolean, accessFlags := 4120, slot := 3, constantValue := 0 }]
  methods := #[k8m0, k8m1, k8m2, k8m3]
  instanceTypes := #[]
  staticTypes := #[.int, .int, .int, .boolean]
  resolved := Array.replicate 635 none
  statics := none }

def pool9 : Array CpInfo := pool [(1, .methodref 2 3), (0, .class_ 4), (0, .nameAndType 5 6), (0, u "java/lang/Object"), (0, u "<init>"), (0, u "()V"), (0, .class_ 8), (0, u "java/lang/Record")] 13

def k9c0 : Code := { maxStack := 1, maxLocals := 1, code := jdk_30_method_1_code, exceptionTable := #[], attributes := #[] }
def k9m0 : Method := { name := "<init>", desc := "()V", sig := { parameters := [], returnType := none }, accessFlags := 4, code := some k9c0 }
/-- java/lang/Record -/
def k9 : Class := { plain "java/lang/Record" (some 0) with
  accessFlags := 1057
  interfaces := #[]
  cf := some (fileOf pool9 7 #[] #[{ accessFlags := 4, nameIndex := 5, descriptorIndex := 6, attributes := #[] }] 1057 2 #[] #[])
  fields := #[]
  methods := #[k9m0]
  instanceTypes := #[]
  staticTypes := #[]
  resolved := Array.replicate 22 none
  statics := none }

def pool10 : Array CpInfo := pool [(1, .methodref 2 3), (0, .class_ 4), (0, .nameAndType 5 6), (0, u "java/lang/Record"), (0, u "<init>"), (0, u "()V"), (0, .string 8), (0, u "table"), (0, .methodref 10 11), (0, .class_ 12), (0, .nameAndType 13 14), (0, u "java/util/Objects"), (0, u "requireNonNull"), (0, u "(Ljava/lang/Object;Ljava/lang/String;)Ljava/lang/Object;"), (0, .string 16), (0, u "key"), (0, .methodref 18 19), (0, .class_ 20), (0, .nameAndType 21 22), (0, u "java/lang/String"), (0, u "isEmpty"), (0, u "()Z"), (7, .fieldref 31 32), (0, .class_ 33), (0, .nameAndType 8 34), (0, u "com/example/fides/fides/RecordId"), (0, u "Ljava/lang/String;"), (0, .fieldref 31 36), (0, .nameAndType 16 34), (0, .class_ 38), (0, u "java/lang/StringBuilder"), (0, .methodref 37 3), (0, .methodref 37 41), (0, .nameAndType 42 43), (0, u "append"), (0, u "(Ljava/lang/String;)Ljava/lang/StringBuilder;"), (0, .string 45), (0, u "/"), (0, .methodref 37 47), (0, .nameAndType 48 49), (0, u "toString"), (0, u "()Ljava/lang/String;"), (8, u "(Ljava/lang/String;Ljava/lang/String;)V")] 27

def k10c0 : Code := { maxStack := 3, maxLocals := 3, code := prog_13_method_1_code, exceptionTable := #[], attributes := #[] }
def k10m0 : Method := { name := "<init>", desc := "(Ljava/lang/String;Ljava/lang/String;)V", sig := { parameters := [(.object "java/lang/String"), (.object "java/lang/String")], returnType := none }, accessFlags := 0, code := some k10c0 }
def k10c1 : Code := { maxStack := 2, maxLocals := 1, code := prog_13_method_2_code, exceptionTable := #[], attributes := #[] }
def k10m1 : Method := { name := "toString", desc := "()Ljava/lang/String;", sig := { parameters := [], returnType := some (.object "java/lang/String") }, accessFlags := 1, code := some k10c1 }
/-- com/example/fides/fides/RecordId -/
def k10 : Class := { plain "com/example/fides/fides/RecordId" (some 9) with
  accessFlags := 48
  interfaces := #[]
  cf := some (fileOf pool10 31 #[] #[{ accessFlags := 0, nameIndex := 5, descriptorIndex := 58, attributes := #[] }, { accessFlags := 1, nameIndex := 48, descriptorIndex := 49, attributes := #[] }] 48 2 #[] #[{ accessFlags := 18, nameIndex := 8, descriptorIndex := 34, attributes := #[] }, { accessFlags := 18, nameIndex := 16, descriptorIndex := 34, attributes := #[] }])
  fields := #[{ name := "table", type := (.object "java/lang/String"), accessFlags := 18, slot := 0, constantValue := 0 }, { name := "key", type := (.object "java/lang/String"), accessFlags := 18, slot := 1, constantValue := 0 }]
  methods := #[k10m0, k10m1]
  instanceTypes := #[(.object "java/lang/String"), (.object "java/lang/String")]
  staticTypes := #[]
  resolved := Array.replicate 86 none
  statics := none }

def pool11 : Array CpInfo := pool [(2, .class_ 4), (1, u "java/lang/Object"), (0, u "<init>"), (0, u "()V"), (35, .class_ 44), (1, u "java/util/Objects"), (0, u "requireNonNull"), (48, u "(Ljava/lang/Object;Ljava/lang/String;)Ljava/lang/Object;")] 89

def k11m0 : Method := { name := "<init>", desc := "()V", sig := { parameters := [], returnType := none }, accessFlags := 2, code := none }
def k11c1 : Code := { maxStack := 3, maxLocals := 2, code := jdk_31_method_11_code, exceptionTable := #[], attributes := #[] }
def k11m1 : Method := { name := "requireNonNull", desc := "(Ljava/lang/Object;Ljava/lang/String;)Ljava/lang/Object;", sig := { parameters := [(.object "java/lang/Object"), (.object "java/lang/String")], returnType := some (.object "java/lang/Object") }, accessFlags := 9, code := some k11c1 }
/-- java/util/Objects -/
def k11 : Class := { plain "java/util/Objects" (some 0) with
  accessFlags := 49
  interfaces := #[]
  cf := some (fileOf pool11 42 #[] #[{ accessFlags := 2, nameIndex := 5, descriptorIndex := 6, attributes := #[] }, { accessFlags := 9, nameIndex := 45, descriptorIndex := 94, attributes := #[] }] 49 2 #[] #[])
  fields := #[]
  methods := #[k11m0, k11m1]
  instanceTypes := #[]
  staticTypes := #[]
  resolved := Array.replicate 184 none
  statics := none }

def pool12 : Array CpInfo := pool [(1, .class_ 2), (0, u "java/lang/Appendable"), (0, .class_ 4), (0, u "java/lang/Object")] 9

/-- java/lang/Appendable -/
def k12 : Class := { plain "java/lang/Appendable" (some 0) with
  accessFlags := 1537
  interfaces := #[]
  cf := some (fileOf pool12 1 #[] #[] 1537 3 #[] #[])
  fields := #[]
  methods := #[]
  instanceTypes := #[]
  staticTypes := #[]
  resolved := Array.replicate 14 none
  statics := none }

def pool13 : Array CpInfo := pool [(1, .class_ 2), (0, u "java/lang/String"), (0, .methodref 4 5), (0, .class_ 6), (0, .nameAndType 7 8), (0, u "java/lang/Object"), (0, u "<init>"), (0, u "()V"), (1, .class_ 12), (1, u "java/lang/AbstractStringBuilder"), (0, u "EMPTYVALUE"), (0, u "[B"), (0, .fieldref 10 16), (0, .nameAndType 17 14), (0, u "value"), (0, .fieldref 1 19), (0, .nameAndType 20 21), (0, u "COMPACT_STRINGS"), (0, u "Z"), (0, .fieldref 10 23), (0, .nameAndType 24 25), (0, u "coder"), (0, u "B"), (6, .methodref 1 33), (0, .nameAndType 34 35), (0, u "length"), (0, u "()I"), (4, .methodref 1 41), (0, .nameAndType 24 42), (0, u "()B"), (2, u "append"), (0, u "(Ljava/lang/String;)Ljava/lang/AbstractStringBuilder;"), (1, .class_ 49), (0, u "java/lang/CharSequence"), (19, u "(Ljava/lang/String;)V"), (5, u "maybeLatin1"), (3, .fieldref 10 80), (0, .nameAndType 81 82), (0, u "count"), (0, u "I"), (2, u "isLatin1"), (0, u "()Z"), (13, .methodref 10 101), (0, .nameAndType 102 103), (0, u "ensureCapacityInternal"), (0, u "(I)V"), (104, .methodref 10 209), (0, .nameAndType 210 211), (0, u "putStringAt"), (0, u "(ILjava/lang/String;)V"), (5, u "inflateIfNeededFor"), (2, .nameAndType 221 222), (0, u "getBytes"), (0, u "([BIB)V"), (174, .methodref 10 398), (0, .nameAndType 217 69), (0, .methodref 1 220), (3, u "()[B"), (40, .class_ 445), (0, u "java/lang/Appendable"), (106, u "getValue")] 56

def k13m0 : Method := { name := "<init>", desc := "()V", sig := { parameters := [], returnType := none }, accessFlags := 0, code := none }
def k13c1 : Code := { maxStack := 2, maxLocals := 2, code := jdk_68_method_2_code, exceptionTable := #[], attributes := #[] }
def k13m1 : Method := { name := "<init>", desc := "(I)V", sig := { parameters := [.int], returnType := none }, accessFlags := 0, code := some k13c1 }
def k13c2 : Code := { maxStack := 1, maxLocals := 1, code := jdk_68_method_6_code, exceptionTable := #[], attributes := #[] }
def k13m2 : Method := { name := "length", desc := "()I", sig := { parameters := [], returnType := some .int }, accessFlags := 1, code := some k13c2 }
def k13c3 : Code := { maxStack := 4, maxLocals := 3, code := jdk_68_method_9_code, exceptionTable := #[], attributes := #[] }
def k13m3 : Method := { name := "ensureCapacityInternal", desc := "(I)V", sig := { parameters := [.int], returnType := none }, accessFlags := 2, code := some k13c3 }
def k13c4 : Code := { maxStack := 3, maxLocals := 3, code := jdk_68_method_22_code, exceptionTable := #[], attributes := #[] }
def k13m4 : Method := { name := "append", desc := "(Ljava/lang/String;)Ljava/lang/AbstractStringBuilder;", sig := { parameters := [(.object "java/lang/String")], returnType := some (.object "java/lang/AbstractStringBuilder") }, accessFlags := 1, code := some k13c4 }
def k13c5 : Code := { maxStack := 1, maxLocals := 1, code := jdk_68_method_64_code, exceptionTable := #[], attributes := #[] }
def k13m5 : Method := { name := "getValue", desc := "()[B", sig := { parameters := [], returnType := some (.array .byte) }, accessFlags := 16, code := some k13c5 }
def k13c6 : Code := { maxStack := 1, maxLocals := 1, code := jdk_68_method_68_code, exceptionTable := #[], attributes := #[] }
def k13m6 : Method := { name := "isLatin1", desc := "()Z", sig := { parameters := [], returnType := some .boolean }, accessFlags := 16, code := some k13c6 }
def k13c7 : Code := { maxStack := 2, maxLocals := 2, code := jdk_68_method_71_code, exceptionTable := #[], attributes := #[] }
def k13m7 : Method := { name := "inflateIfNeededFor", desc := "(Ljava/lang/String;)V", sig := { parameters := [(.object "java/lang/String")], returnType := none }, accessFlags := 2, code := some k13c7 }
def k13c8 : Code := { maxStack := 4, maxLocals := 3, code := jdk_68_method_73_code, exceptionTable := #[], attributes := #[] }
def k13m8 : Method := { name := "putStringAt", desc := "(ILjava/lang/String;)V", sig := { parameters := [.int, (.object "java/lang/String")], returnType := none }, accessFlags := 2, code := some k13c8 }
/-- java/lang/AbstractStringBuilder -/
def k13 : Class := { plain "java/lang/AbstractStringBuilder" (some 0) with
  accessFlags := 1056
  interfaces := #[12, 4]
  cf := some (fileOf pool13 10 #[] #[{ accessFlags := 0, nameIndex := 7, descriptorIndex := 8, attributes := #[] }, { accessFlags := 0, nameIndex := 7, descriptorIndex := 103, attributes := #[] }, { accessFlags := 1, nameIndex := 34, descriptorIndex := 35, attributes := #[] }, { accessFlags := 2, nameIndex := 102, descriptorIndex := 103, attributes := #[] }, { accessFlags := 1, nameIndex := 45, descriptorIndex := 46, attributes := #[] }, { accessFlags := 16, nameIndex := 552, descriptorIndex := 403, attributes := #[] }, { accessFlags := 16, nameIndex := 85, descriptorIndex := 86, attributes := #[] }, { accessFlags := 2, nameIndex := 217, descriptorIndex := 69, attributes := #[] }, { accessFlags := 2, nameIndex := 210, descriptorIndex := 211, attributes := #[] }] 1056 4 #[444, 48] #[{ accessFlags := 0, nameIndex := 17, descriptorIndex := 14, attributes := #[] }, { accessFlags := 0, nameIndex := 24, descriptorIndex := 25, attributes := #[] }, { accessFlags := 0, nameIndex := 75, descriptorIndex := 21, attributes := #[] }, { accessFlags := 0, nameIndex := 81, descriptorIndex := 82, attributes := #[] }, { accessFlags := 26, nameIndex := 13, descriptorIndex := 14, attributes := #[] }])
  fields := #[{ name := "value", type := (.array .byte), accessFlags := 0, slot := 0, constantValue := 0 }, { name := "coder", type := .byte, accessFlags := 0, slot := 1, constantValue := 0 }, { name := "maybeLatin1", type := .boolean, accessFlags := 0, slot := 2, constantValue := 0 }, { name := "count", type := .int, accessFlags := 0, slot := 3, constantValue := 0 }, { name := "EMPTYVALUE", type := (.array .byte), accessFlags := 26, slot := 0, constantValue := 0 }]
  methods := #[k13m0, k13m1, k13m2, k13m3, k13m4, k13m5, k13m6, k13m7, k13m8]
  instanceTypes := #[(.array .byte), .byte, .boolean, .int]
  staticTypes := #[(.array .byte)]
  resolved := Array.replicate 609 none
  statics := none }

def pool14 : Array CpInfo := pool [(1, .methodref 2 3), (0, .class_ 4), (0, .nameAndType 5 6), (0, u "java/lang/AbstractStringBuilder"), (0, u "<init>"), (0, u "(I)V"), (11, .class_ 20), (1, u "java/lang/String"), (3, .class_ 26), (1, u "java/lang/StringBuilder"), (0, u "append"), (0, u "(Ljava/lang/String;)Ljava/lang/StringBuilder;"), (0, .methodref 2 30), (0, .nameAndType 27 31), (0, u "(Ljava/lang/String;)Ljava/lang/AbstractStringBuilder;"), (105, .methodref 18 138), (0, .nameAndType 5 139), (0, u "(Ljava/lang/StringBuilder;)V"), (5, u "()V"), (10, u "()I"), (186, .methodref 2 344), (0, .nameAndType 345 156), (0, u "length"), (3, .class_ 350), (0, u "java/lang/Appendable"), (0, .class_ 352), (0, u "java/io/Serializable"), (0, .class_ 354), (0, u "java/lang/Comparable"), (0, .class_ 356), (0, u "java/lang/CharSequence"), (0, u "serialVersionUID"), (0, u "J"), (40, u "toString"), (0, u "()Ljava/lang/String;")] 21

def k14c0 : Code := { maxStack := 2, maxLocals := 1, code := jdk_67_method_1_code, exceptionTable := #[], attributes := #[] }
def k14m0 : Method := { name := "<init>", desc := "()V", sig := { parameters := [], returnType := none }, accessFlags := 1, code := some k14c0 }
def k14c1 : Code := { maxStack := 2, maxLocals := 2, code := jdk_67_method_7_code, exceptionTable := #[], attributes := #[] }
def k14m1 : Method := { name := "append", desc := "(Ljava/lang/String;)Ljava/lang/StringBuilder;", sig := { parameters := [(.object "java/lang/String")], returnType := some (.object "java/lang/StringBuilder") }, accessFlags := 1, code := some k14c1 }
def k14c2 : Code := { maxStack := 3, maxLocals := 1, code := jdk_67_method_42_code, exceptionTable := #[], attributes := #[] }
def k14m2 : Method := { name := "toString", desc := "()Ljava/lang/String;", sig := { parameters := [], returnType := some (.object "java/lang/String") }, accessFlags := 1, code := some k14c2 }
def k14c3 : Code := { maxStack := 1, maxLocals := 1, code := jdk_67_method_93_code, exceptionTable := #[], attributes := #[] }
def k14m3 : Method := { name := "length", desc := "()I", sig := { parameters := [], returnType := some .int }, accessFlags := 4161, code := some k14c3 }
/-- java/lang/StringBuilder -/
def k14 : Class := { plain "java/lang/StringBuilder" (some 13) with
  accessFlags := 49
  interfaces := #[12, 2, 3, 4]
  cf := some (fileOf pool14 24 #[] #[{ accessFlags := 1, nameIndex := 5, descriptorIndex := 145, attributes := #[] }, { accessFlags := 1, nameIndex := 27, descriptorIndex := 28, attributes := #[] }, { accessFlags := 1, nameIndex := 399, descriptorIndex := 400, attributes := #[] }, { accessFlags := 4161, nameIndex := 345, descriptorIndex := 156, attributes := #[] }] 49 2 #[349, 351, 353, 355] #[{ accessFlags := 24, nameIndex := 357, descriptorIndex := 358, attributes := #[] }])
  fields := #[{ name := "serialVersionUID", type := .long, accessFlags := 24, slot := 0, constantValue := 0 }]
  methods := #[k14m0, k14m1, k14m2, k14m3]
  instanceTypes := #[(.array .byte), .byte, .boolean, .int]
  staticTypes := #[.long]
  resolved := Array.replicate 422 none
  statics := none }

def pool15 : Array CpInfo := pool [(2, .class_ 4), (1, u "java/lang/Object"), (0, u "<init>"), (0, u "()V"), (1, .class_ 10), (1, u "java/lang/System"), (0, u "allowSecurityManager"), (0, u "I"), (16, u "cons"), (0, u "Ljava/io/Console;"), (77, .class_ 110), (1, u "java/lang/System$CallersHolder"), (43, u "initialErrStream"), (0, u "Ljava/io/PrintStream;"), (19, u "security"), (0, u "Ljava/lang/SecurityManager;"), (31, .class_ 209), (0, u "java/lang/System$1"), (7, u "props"), (0, u "Ljava/util/Properties;"), (2, u "lineSeparator"), (0, u "Ljava/lang/String;"), (96, .class_ 321), (1, u "java/lang/System$LoggerFinder"), (5, .class_ 328), (0, u "java/lang/System$Logger"), (67, u "err"), (2, u "out"), (91, u "notSupportedJnuEncoding"), (15, u "in"), (17, u "initialIn"), (0, u "Ljava/io/InputStream;"), (35, u "bootLayer"), (0, u "Ljava/lang/ModuleLayer;"), (99, .class_ 664), (0, u "java/lang/System$2"), (9, u "NEVER"), (2, u "MAYBE"), (49, u "arraycopy"), (0, u "(Ljava/lang/Object;ILjava/lang/Object;II)V"), (72, .class_ 802), (0, u "java/lang/System$Logger$Level")] 31

def k15m0 : Method := { name := "<init>", desc := "()V", sig := { parameters := [], returnType := none }, accessFlags := 2, code := none }
def k15m1 : Method := { name := "arraycopy", desc := "(Ljava/lang/Object;ILjava/lang/Object;II)V", sig := { parameters := [(.object "java/lang/Object"), .int, (.object "java/lang/Object"), .int, .int], returnType := none }, accessFlags := 265, code := none }
/-- java/lang/System -/
def k15 : Class := { plain "java/lang/System" (some 0) with
  accessFlags := 49
  interfaces := #[]
  cf := some (fileOf pool15 8 #[.nestMembers #[319, 327, 801, 108, 663, 208]] #[{ accessFlags := 2, nameIndex := 5, descriptorIndex := 6, attributes := #[] }, { accessFlags := 265, nameIndex := 727, descriptorIndex := 728, attributes := #[] }] 49 2 #[] #[{ accessFlags := 25, nameIndex := 507, descriptorIndex := 526, attributes := #[] }, { accessFlags := 25, nameIndex := 399, descriptorIndex := 155, attributes := #[] }, { accessFlags := 25, nameIndex := 396, descriptorIndex := 155, attributes := #[] }, { accessFlags := 10, nameIndex := 525, descriptorIndex := 526, attributes := #[] }, { accessFlags := 26, nameIndex := 674, descriptorIndex := 12, attributes := #[] }, { accessFlags := 26, nameIndex := 677, descriptorIndex := 12, attributes := #[] }, { accessFlags := 10, nameIndex := 11, descriptorIndex := 12, attributes := #[] }, { accessFlags := 74, nameIndex := 175, descriptorIndex := 176, attributes := #[] }, { accessFlags := 10, nameIndex := 491, descriptorIndex := 222, attributes := #[] }, { accessFlags := 74, nameIndex := 29, descriptorIndex := 30, attributes := #[] }, { accessFlags := 74, nameIndex := 154, descriptorIndex := 155, attributes := #[] }, { accessFlags := 10, nameIndex := 217, descriptorIndex := 218, attributes := #[] }, { accessFlags := 10, nameIndex := 221, descriptorIndex := 222, attributes := #[] }, { accessFlags := 8, nameIndex := 562, descriptorIndex := 563, attributes := #[] }])
  fields := #[{ name := "in", type := (.object "java/io/InputStream"), accessFlags := 25, slot := 0, constantValue := 0 }, { name := "out", type := (.object "java/io/PrintStream"), accessFlags := 25, slot := 1, constantValue := 0 }, { name := "err", type := (.object "java/io/PrintStream"), accessFlags := 25, slot := 2, constantValue := 0 }, { name := "initialIn", type := (.object "java/io/InputStream"), accessFlags := 10, slot := 3, constantValue := 0 }, { name := "NEVER", type := .int, accessFlags := 26, slot := 4, constantValue := 0 }, { name := "MAYBE", type := .int, accessFlags := 26, slot := 5, constantValue := 0 }, { name := "allowSecurityManager", type := .int, accessFlags := 10, slot := 6, constantValue := 0 }, { name := "security", type := (.object "java/lang/SecurityManager"), accessFlags := 74, slot := 7, constantValue := 0 }, { name := "notSupportedJnuEncoding", type := (.object "java/lang/String"), accessFlags := 10, slot := 8, constantValue := 0 }, { name := "cons", type := (.object "java/io/Console"), accessFlags := 74, slot := 9, constantValue := 0 }, { name := "initialErrStream", type := (.object "java/io/PrintStream"), accessFlags := 74, slot := 10, constantValue := 0 }, { name := "props", type := (.object "java/util/Properties"), accessFlags := 10, slot := 11, constantValue := 0 }, { name := "lineSeparator", type := (.object "java/lang/String"), accessFlags := 10, slot := 12, constantValue := 0 }, { name := "bootLayer", type := (.object "java/lang/ModuleLayer"), accessFlags := 8, slot := 13, constantValue := 0 }]
  methods := #[k15m0, k15m1]
  instanceTypes := #[]
  staticTypes := #[(.object "java/io/InputStream"), (.object "java/io/PrintStream"), (.object "java/io/PrintStream"), (.object "java/io/InputStream"), .int, .int, .int, (.object "java/lang/SecurityManager"), (.object "java/lang/String"), (.object "java/io/Console"), (.object "java/io/PrintStream"), (.object "java/util/Properties"), (.object "java/lang/String"), (.object "java/lang/ModuleLayer")]
  resolved := Array.replicate 834 none
  statics := none }

def pool16 : Array CpInfo := pool [(2, .class_ 4), (1, u "java/lang/Object"), (0, u "<init>"), (0, u "()V"), (7, .class_ 16), (1, u "java/util/Arrays"), (57, .class_ 76), (1, u "java/util/Arrays$NaturalOrder"), (36, .class_ 115), (1, u "java/util/Arrays$LegacyMergeSort"), (1, u "Z"), (21, u "copyOfRange"), (10, .methodref 151 152), (0, .class_ 153), (0, .nameAndType 154 155), (0, u "java/lang/System"), (0, u "arraycopy"), (0, u "(Ljava/lang/Object;ILjava/lang/Object;II)V"), (148, .methodref 305 306), (0, .class_ 307), (0, .nameAndType 308 309), (0, u "java/lang/Math"), (0, u "min"), (0, u "(II)I"), (29, .methodref 14 340), (0, .nameAndType 341 342), (0, u "copyOfRangeByte"), (0, u "([BII)[B"), (0, .methodref 14 344), (0, .nameAndType 345 346), (0, u "checkLength"), (0, u "(II)V"), (28, .class_ 376), (0, u "java/util/Arrays$ArrayList"), (68, u "$assertionsDisabled"), (269, u "MIN_ARRAY_SORT_GRAN"), (0, u "I"), (2, u "INSERTIONSORT_THRESHOLD"), (255, .class_ 976), (0, u "java/util/Arrays$ArrayItr")] 52

def k16m0 : Method := { name := "<init>", desc := "()V", sig := { parameters := [], returnType := none }, accessFlags := 2, code := none }
def k16c1 : Code := { maxStack := 4, maxLocals := 2, code := jdk_65_method_131_code, exceptionTable := #[], attributes := #[] }
def k16m1 : Method := { name := "checkLength", desc := "(II)V", sig := { parameters := [.int, .int], returnType := none }, accessFlags := 10, code := some k16c1 }
def k16c2 : Code := { maxStack := 3, maxLocals := 3, code := jdk_65_method_132_code, exceptionTable := #[], attributes := #[] }
def k16m2 : Method := { name := "copyOfRange", desc := "([BII)[B", sig := { parameters := [(.array .byte), .int, .int], returnType := some (.array .byte) }, accessFlags := 9, code := some k16c2 }
def k16c3 : Code := { maxStack := 6, maxLocals := 5, code := jdk_65_method_133_code, exceptionTable := #[], attributes := #[] }
def k16m3 : Method := { name := "copyOfRangeByte", desc := "([BII)[B", sig := { parameters := [(.array .byte), .int, .int], returnType := some (.array .byte) }, accessFlags := 10, code := some k16c3 }
/-- java/util/Arrays -/
def k16 : Class := { plain "java/util/Arrays" (some 0) with
  accessFlags := 49
  interfaces := #[]
  cf := some (fileOf pool16 14 #[.nestMembers #[975, 375, 113, 74]] #[{ accessFlags := 2, nameIndex := 5, descriptorIndex := 6, attributes := #[] }, { accessFlags := 10, nameIndex := 345, descriptorIndex := 346, attributes := #[] }, { accessFlags := 9, nameIndex := 139, descriptorIndex := 342, attributes := #[] }, { accessFlags := 10, nameIndex := 341, descriptorIndex := 342, attributes := #[] }] 49 2 #[] #[{ accessFlags := 26, nameIndex := 715, descriptorIndex := 716, attributes := #[] }, { accessFlags := 26, nameIndex := 719, descriptorIndex := 716, attributes := #[] }, { accessFlags := 4120, nameIndex := 445, descriptorIndex := 117, attributes := #[] }])
  fields := #[{ name := "MIN_ARRAY_SORT_GRAN", type := .int, accessFlags := 26, slot := 0, constantValue := 0 }, { name := "INSERTIONSORT_THRESHOLD", type := .int, accessFlags := 26, slot := 1, constantValue := 0 }, { name := "$assertionsDisabled", type := .boolean, accessFlags := 4120, slot := 2, constantValue := 0 }]
  methods := #[k16m0, k16m1, k16m2, k16m3]
  instanceTypes := #[]
  staticTypes := #[.int, .int, .boolean]
  resolved := Array.replicate 1029 none
  statics := none }

def pool17 : Array CpInfo := pool [(1, .class_ 2), (0, u "java/lang/Math"), (1, .class_ 6), (1, u "java/lang/Object"), (0, u "<init>"), (0, u "()V"), (89, .class_ 100), (1, u "java/lang/Math$RandomNumberGeneratorHolder"), (71, u "negativeZeroFloatBits"), (0, u "J"), (2, u "negativeZeroDoubleBits"), (24, u "min"), (43, u "$assertionsDisabled"), (0, u "Z"), (88, u "(II)I"), (2, u "twoToTheDoubleScaleDown"), (0, u "D"), (4, u "twoToTheDoubleScaleUp"), (9, u "E"), (3, u "PI"), (2, u "TAU"), (2, u "DEGREES_TO_RADIANS"), (0, u "RADIANS_TO_DEGREES")] 94

def k17m0 : Method := { name := "<init>", desc := "()V", sig := { parameters := [], returnType := none }, accessFlags := 2, code := none }
def k17c1 : Code := { maxStack := 2, maxLocals := 2, code := jdk_29_method_69_code, exceptionTable := #[], attributes := #[] }
def k17m1 : Method := { name := "min", desc := "(II)I", sig := { parameters := [.int, .int], returnType := some .int }, accessFlags := 9, code := some k17c1 }
/-- java/lang/Math -/
def k17 : Class := { plain "java/lang/Math" (some 0) with
  accessFlags := 49
  interfaces := #[]
  cf := some (fileOf pool17 1 #[.nestMembers #[98]] #[{ accessFlags := 2, nameIndex := 7, descriptorIndex := 8, attributes := #[] }, { accessFlags := 9, nameIndex := 201, descriptorIndex := 335, attributes := #[] }] 49 4 #[] #[{ accessFlags := 25, nameIndex := 354, descriptorIndex := 339, attributes := #[] }, { accessFlags := 25, nameIndex := 358, descriptorIndex := 339, attributes := #[] }, { accessFlags := 25, nameIndex := 361, descriptorIndex := 339, attributes := #[] }, { accessFlags := 26, nameIndex := 364, descriptorIndex := 339, attributes := #[] }, { accessFlags := 26, nameIndex := 365, descriptorIndex := 339, attributes := #[] }, { accessFlags := 26, nameIndex := 172, descriptorIndex := 173, attributes := #[] }, { accessFlags := 26, nameIndex := 176, descriptorIndex := 173, attributes := #[] }, { accessFlags := 8, nameIndex := 344, descriptorIndex := 339, attributes := #[] }, { accessFlags := 8, nameIndex := 338, descriptorIndex := 339, attributes := #[] }, { accessFlags := 4120, nameIndex := 245, descriptorIndex := 246, attributes := #[] }])
  fields := #[{ name := "E", type := .double, accessFlags := 25, slot := 0, constantValue := 0 }, { name := "PI", type := .double, accessFlags := 25, slot := 1, constantValue := 0 }, { name := "TAU", type := .double, accessFlags := 25, slot := 2, constantValue := 0 }, { name := "DEGREES_TO_RADIANS", type := .double, accessFlags := 26, slot := 3, constantValue := 0 }, { name := "RADIANS_TO_DEGREES", type := .double, accessFlags := 26, slot := 4, constantValue := 0 }, { name := "negativeZeroFloatBits", type := .long, accessFlags := 26, slot := 5, constantValue := 0 }, { name := "negativeZeroDoubleBits", type := .long, accessFlags := 26, slot := 6, constantValue := 0 }, { name := "twoToTheDoubleScaleUp", type := .double, accessFlags := 8, slot := 7, constantValue := 0 }, { name := "twoToTheDoubleScaleDown", type := .double, accessFlags := 8, slot := 8, constantValue := 0 }, { name := "$assertionsDisabled", type := .boolean, accessFlags := 4120, slot := 9, constantValue := 0 }]
  methods := #[k17m0, k17m1]
  instanceTypes := #[]
  staticTypes := #[.double, .double, .double, .double, .double, .long, .long, .double, .double, .boolean]
  resolved := Array.replicate 460 none
  statics := none }

def pool18 : Array CpInfo := pool [(1, .class_ 2), (0, u "java/lang/String"), (1, .class_ 6), (1, u "java/lang/Object"), (0, u "<init>"), (0, u "()V"), (0, .methodref 1 10), (0, .nameAndType 11 12), (0, u "checkIndex"), (0, u "(II)V"), (1, .class_ 16), (1, u "java/lang/StringLatin1"), (36, u "([BI)C"), (67, u "$assertionsDisabled"), (0, u "Z"), (98, .class_ 223), (1, u "java/lang/StringLatin1$LinesSpliterator"), (28, u "charAt"), (137, .class_ 391), (0, u "java/lang/StringLatin1$CharsSpliterator")] 3

def k18m0 : Method := { name := "<init>", desc := "()V", sig := { parameters := [], returnType := none }, accessFlags := 0, code := none }
def k18c1 : Code := { maxStack := 2, maxLocals := 2, code := jdk_43_method_2_code, exceptionTable := #[], attributes := #[] }
def k18m1 : Method := { name := "charAt", desc := "([BI)C", sig := { parameters := [(.array .byte), .int], returnType := some .char }, accessFlags := 9, code := some k18c1 }
/-- java/lang/StringLatin1 -/
def k18 : Class := { plain "java/lang/StringLatin1" (some 0) with
  accessFlags := 48
  interfaces := #[]
  cf := some (fileOf pool18 14 #[.nestMembers #[390, 221]] #[{ accessFlags := 0, nameIndex := 7, descriptorIndex := 8, attributes := #[] }, { accessFlags := 9, nameIndex := 252, descriptorIndex := 53, attributes := #[] }] 48 4 #[] #[{ accessFlags := 4120, nameIndex := 121, descriptorIndex := 122, attributes := #[] }])
  fields := #[{ name := "$assertionsDisabled", type := .boolean, accessFlags := 4120, slot := 0, constantValue := 0 }]
  methods := #[k18m0, k18m1]
  instanceTypes := #[]
  staticTypes := #[.boolean]
  resolved := Array.replicate 395 none
  statics := none }

def pool19 : Array CpInfo := pool [(2, .class_ 4), (1, u "java/lang/Object"), (0, u "<init>"), (0, u "()V"), (17, .class_ 26), (1, u "jdk/internal/util/Preconditions"), (6, u "checkIndex"), (21, .class_ 56), (0, u "jdk/internal/util/Preconditions$4"), (57, .class_ 115), (0, u "jdk/internal/util/Preconditions$1"), (7, u "SIOOBE_FORMATTER"), (0, u "Ljava/util/function/BiFunction;"), (0, .class_ 126), (0, u "jdk/internal/util/Preconditions$2"), (3, u "AIOOBE_FORMATTER"), (0, .class_ 132), (0, u "jdk/internal/util/Preconditions$3"), (3, u "IOOBE_FORMATTER"), (41, u "(IILjava/util/function/BiFunction;)I")] 15

def k19m0 : Method := { name := "<init>", desc := "()V", sig := { parameters := [], returnType := none }, accessFlags := 1, code := none }
def k19c1 : Code := { maxStack := 3, maxLocals := 3, code := jdk_41_method_11_code, exceptionTable := #[], attributes := #[] }
def k19m1 : Method := { name := "checkIndex", desc := "(IILjava/util/function/BiFunction;)I", sig := { parameters := [.int, .int, (.object "java/util/function/BiFunction")], returnType := some .int }, accessFlags := 9, code := some k19c1 }
/-- jdk/internal/util/Preconditions -/
def k19 : Class := { plain "jdk/internal/util/Preconditions" (some 0) with
  accessFlags := 33
  interfaces := #[]
  cf := some (fileOf pool19 24 #[.nestMembers #[55, 131, 125, 114]] #[{ accessFlags := 1, nameIndex := 5, descriptorIndex := 6, attributes := #[] }, { accessFlags := 9, nameIndex := 33, descriptorIndex := 178, attributes := #[] }] 33 2 #[] #[{ accessFlags := 25, nameIndex := 123, descriptorIndex := 124, attributes := #[] }, { accessFlags := 25, nameIndex := 130, descriptorIndex := 124, attributes := #[] }, { accessFlags := 25, nameIndex := 136, descriptorIndex := 124, attributes := #[] }])
  fields := #[{ name := "SIOOBE_FORMATTER", type := (.object "java/util/function/BiFunction"), accessFlags := 25, slot := 0, constantValue := 0 }, { name := "AIOOBE_FORMATTER", type := (.object "java/util/function/BiFunction"), accessFlags := 25, slot := 1, constantValue := 0 }, { name := "IOOBE_FORMATTER", type := (.object "java/util/function/BiFunction"), accessFlags := 25, slot := 2, constantValue := 0 }]
  methods := #[k19m0, k19m1]
  instanceTypes := #[]
  staticTypes := #[(.object "java/util/function/BiFunction"), (.object "java/util/function/BiFunction"), (.object "java/util/function/BiFunction")]
  resolved := Array.replicate 194 none
  statics := some 1 }

def pool20 : Array CpInfo := pool [(9, u "<init>"), (6, .class_ 18), (1, u "java/lang/Object"), (0, u "()V"), (1, .class_ 23), (1, u "jdk/internal/util/ArraysSupport"), (0, u "LOG2_ARRAY_LONG_INDEX_SCALE"), (0, u "I"), (2, u "U"), (0, u "Ljdk/internal/misc/Unsafe;"), (8, u "BIG_ENDIAN"), (0, u "Z"), (8, u "LOG2_BYTE_BIT_SIZE"), (4, u "LOG2_ARRAY_INT_INDEX_SCALE"), (54, u "JLA"), (0, u "Ljdk/internal/access/JavaLangAccess;"), (11, u "LOG2_ARRAY_BOOLEAN_INDEX_SCALE"), (9, u "LOG2_ARRAY_BYTE_INDEX_SCALE"), (5, u "LOG2_ARRAY_CHAR_INDEX_SCALE"), (5, u "LOG2_ARRAY_SHORT_INDEX_SCALE"), (18, u "LOG2_ARRAY_FLOAT_INDEX_SCALE"), (24, u "LOG2_ARRAY_DOUBLE_INDEX_SCALE"), (89, u "T_BOOLEAN"), (2, u "T_CHAR"), (1, u "T_FLOAT"), (1, u "T_DOUBLE"), (1, u "T_BYTE"), (1, u "T_SHORT"), (1, u "T_INT"), (1, u "T_LONG"), (1, u "SOFT_MAX_ARRAY_LENGTH")] 83

def k20m0 : Method := { name := "<init>", desc := "()V", sig := { parameters := [], returnType := none }, accessFlags := 2, code := none }
/-- jdk/internal/util/ArraysSupport -/
def k20 : Class := { plain "jdk/internal/util/ArraysSupport" (some 0) with
  accessFlags := 33
  interfaces := #[]
  cf := some (fileOf pool20 21 #[] #[{ accessFlags := 2, nameIndex := 9, descriptorIndex := 19, attributes := #[] }] 33 16 #[] #[{ accessFlags := 24, nameIndex := 28, descriptorIndex := 29, attributes := #[] }, { accessFlags := 26, nameIndex := 38, descriptorIndex := 39, attributes := #[] }, { accessFlags := 25, nameIndex := 121, descriptorIndex := 25, attributes := #[] }, { accessFlags := 25, nameIndex := 131, descriptorIndex := 25, attributes := #[] }, { accessFlags := 25, nameIndex := 137, descriptorIndex := 25, attributes := #[] }, { accessFlags := 25, nameIndex := 143, descriptorIndex := 25, attributes := #[] }, { accessFlags := 25, nameIndex := 53, descriptorIndex := 25, attributes := #[] }, { accessFlags := 25, nameIndex := 24, descriptorIndex := 25, attributes := #[] }, { accessFlags := 25, nameIndex := 162, descriptorIndex := 25, attributes := #[] }, { accessFlags := 25, nameIndex := 187, descriptorIndex := 25, attributes := #[] }, { accessFlags := 26, nameIndex := 48, descriptorIndex := 25, attributes := #[] }, { accessFlags := 25, nameIndex := 277, descriptorIndex := 25, attributes := #[] }, { accessFlags := 25, nameIndex := 280, descriptorIndex := 25, attributes := #[] }, { accessFlags := 25, nameIndex := 282, descriptorIndex := 25, attributes := #[] }, { accessFlags := 25, nameIndex := 284, descriptorIndex := 25, attributes := #[] }, { accessFlags := 25, nameIndex := 286, descriptorIndex := 25, attributes := #[] }, { accessFlags := 25, nameIndex := 288, descriptorIndex := 25, attributes := #[] }, { accessFlags := 25, nameIndex := 290, descriptorIndex := 25, attributes := #[] }, { accessFlags := 25, nameIndex := 292, descriptorIndex := 25, attributes := #[] }, { accessFlags := 26, nameIndex := 108, descriptorIndex := 109, attributes := #[] }, { accessFlags := 25, nameIndex := 294, descriptorIndex := 25, attributes := #[] }])
  fields := #[{ name := "U", type := (.object "jdk/internal/misc/Unsafe"), accessFlags := 24, slot := 0, constantValue := 0 }, { name := "BIG_ENDIAN", type := .boolean, accessFlags := 26, slot := 1, constantValue := 0 }, { name := "LOG2_ARRAY_BOOLEAN_INDEX_SCALE", type := .int, accessFlags := 25, slot := 2, constantValue := 0 }, { name := "LOG2_ARRAY_BYTE_INDEX_SCALE", type := .int, accessFlags := 25, slot := 3, constantValue := 0 }, { name := "LOG2_ARRAY_CHAR_INDEX_SCALE", type := .int, accessFlags := 25, slot := 4, constantValue := 0 }, { name := "LOG2_ARRAY_SHORT_INDEX_SCALE", type := .int, accessFlags := 25, slot := 5, constantValue := 0 }, { name := "LOG2_ARRAY_INT_INDEX_SCALE", type := .int, accessFlags := 25, slot := 6, constantValue := 0 }, { name := "LOG2_ARRAY_LONG_INDEX_SCALE", type := .int, accessFlags := 25, slot := 7, constantValue := 0 }, { name := "LOG2_ARRAY_FLOAT_INDEX_SCALE", type := .int, accessFlags := 25, slot := 8, constantValue := 0 }, { name := "LOG2_ARRAY_DOUBLE_INDEX_SCALE", type := .int, accessFlags := 25, slot := 9, constantValue := 0 }, { name := "LOG2_BYTE_BIT_SIZE", type := .int, accessFlags := 26, slot := 10, constantValue := 0 }, { name := "T_BOOLEAN", type := .int, accessFlags := 25, slot := 11, constantValue := 0 }, { name := "T_CHAR", type := .int, accessFlags := 25, slot := 12, constantValue := 0 }, { name := "T_FLOAT", type := .int, accessFlags := 25, slot := 13, constantValue := 0 }, { name := "T_DOUBLE", type := .int, accessFlags := 25, slot := 14, constantValue := 0 }, { name := "T_BYTE", type := .int, accessFlags := 25, slot := 15, constantValue := 0 }, { name := "T_SHORT", type := .int, accessFlags := 25, slot := 16, constantValue := 0 }, { name := "T_INT", type := .int, accessFlags := 25, slot := 17, constantValue := 0 }, { name := "T_LONG", type := .int, accessFlags := 25, slot := 18, constantValue := 0 }, { name := "JLA", type := (.object "jdk/internal/access/JavaLangAccess"), accessFlags := 26, slot := 19, constantValue := 0 }, { name := "SOFT_MAX_ARRAY_LENGTH", type := .int, accessFlags := 25, slot := 20, constantValue := 0 }]
  methods := #[k20m0]
  instanceTypes := #[]
  staticTypes := #[(.object "jdk/internal/misc/Unsafe"), .boolean, .int, .int, .int, .int, .int, .int, .int, .int, .int, .int, .int, .int, .int, .int, .int, .int, .int, (.object "jdk/internal/access/JavaLangAccess"), .int]
  resolved := Array.replicate 378 none
  statics := none }

def pool21 : Array CpInfo := pool [(1, u "java/lang/Cloneable"), (0, .class_ 1), (0, u "java/lang/Object"), (0, .class_ 3)] 3

/-- java/lang/Cloneable -/
def k21 : Class := { plain "java/lang/Cloneable" (some 0) with
  accessFlags := 1537
  interfaces := #[]
  cf := some (fileOf pool21 2 #[] #[] 1537 4 #[] #[])
  fields := #[]
  methods := #[]
  instanceTypes := #[]
  staticTypes := #[]
  resolved := Array.replicate 8 none
  statics := none }

/-- the primitive byte -/
def k22 : Class := { plain "byte" none with kind := .primitive 'B', accessFlags := 0x411 }
/-- [B -/
def k23 : Class := { plain "[B" (some 0) with kind := .array 22 .byte, interfaces := #[21, 2], accessFlags := 1041 }

/-- the primitive char -/
def k24 : Class := { plain "char" none with kind := .primitive 'C', accessFlags := 0x411 }
/-- [C -/
def k25 : Class := { plain "[C" (some 0) with kind := .array 24 .char, interfaces := #[21, 2], accessFlags := 1041 }

/-- the primitive int -/
def k26 : Class := { plain "int" none with kind := .primitive 'I', accessFlags := 0x411 }
/-- [I -/
def k27 : Class := { plain "[I" (some 0) with kind := .array 26 .int, interfaces := #[21, 2], accessFlags := 1041 }

def heap : Heap := #[{ cls := 7, slots := #[.long 0, .int 1, .null, .int 0, .null, .int 0, .int 0], vm := .statics 7 },
  { cls := 19, slots := #[.null, .null, .null], vm := .statics 19 }]
def classes : Array Class := #[k0, k1, k2, k3, k4, k5, k6, k7, k8, k9, k10, k11, k12, k13, k14, k15, k16, k17, k18, k19, k20, k21, k22, k23, k24, k25, k26, k27]
def interned : List (Array UInt16 × Addr) := []
def slotsUsed : Nat := 10
def theMethod : MethodId := ⟨1, 1⟩
def args0 : Array Value := #[.int 5, .int 7]
def aboutOver (below : List Frame) : State where
  vm := { classes := classes, interned := interned.toArray }
  heap := heap
  slotsUsed := slotsUsed
  threads := #[{ frames := .invoking theMethod args0 :: below }]
def below0 : List Frame := [.native { method := ⟨0, 0⟩, args := #[] }]
def about1 : State := aboutOver below0
def p0 : Program := .bare "" "" ""
def e0 : Env := launch0.env 0 0 0
theorem w_frames : about1.frames = Frame.invoking theMethod args0 :: below0 := rfl
set_option maxRecDepth 65536 in
theorem w_args : argsFit about1.vm theMethod args0 = true := by decide +kernel
set_option maxRecDepth 65536 in
theorem w_heap : heapFits about1 = true := by decide +kernel
set_option maxRecDepth 65536 in
theorem w_runnable : about1.curStatus? = some .runnable := by decide +kernel
set_option maxRecDepth 65536 in
theorem w_alone : about1.alone = true := by decide +kernel
set_option maxRecDepth 65536 in
theorem w_named : about1.methodNamed? x = some theMethod := by decide +kernel
set_option maxRecDepth 65536 in
theorem w_hears : about1.hears theMethod below0 = true := by decide +kernel
set_option maxRecDepth 65536 in
theorem w_ripe : about1.ripe theMethod args0 below0 = true := by decide +kernel
theorem w_running : about1.status = .running := rfl
set_option maxRecDepth 65536 in
theorem w_room : about1.hasRoom e0.platform room_1 = true :=
  launch0.hasRoom_least _ room_1 (by decide +kernel) (by decide +kernel) (by decide +kernel) (by decide +kernel) (by decide +kernel) (by decide +kernel)
theorem allAtoms_all (ts : List Jvm.Cond) (a : Array Jvm.Value) (st : Jvm.State) : (allAtoms ts).before a st = ts.all (fun c => c.before a st) := by
  induction ts with
  | nil => rfl
  | cons c t ih =>
    show (Jvm.Cond.and c (allAtoms t)).before a st = _
    rw [Jvm.Cond.before_and, ih, List.all_cons]
def words1 : List Jvm.Cond := Jvm.Cond.code x code maxLocals ret :: tables_1
/-- a 'code' word, met by the world's own term for the bytes: nothing is compared byte by byte -/
theorem code_word {y : MethodName} {bytes : ByteArray} {mx : Nat} {rt : Option FieldType} {a : Array Value} {s : State} {m : MethodId} {meth : Method} {c : Code} (h1 : s.methodNamed? y = some m) (h2 : s.vm.method? m = some meth) (h3 : meth.code = some c) (h4 : c.code = bytes)
    (h5 : (c.maxLocals == mx && c.exceptionTable.isEmpty && decide (c.maxStack ≤ mostOperands) && decide (meth.sig.returnType = rt) && !meth.locks && decide (parseMethodDescriptor y.desc = some meth.sig)) = true) : (Jvm.Cond.code y bytes mx rt).before a s = true := by
  simp only [Bool.and_eq_true, beq_iff_eq, Bool.not_eq_true', decide_eq_true_eq] at h5
  obtain ⟨⟨⟨⟨⟨g1, g2⟩, g3⟩, g4⟩, g5⟩, g6⟩ := h5
  simp [Cond.before, Cond.holds, Cond.value, h1, h2, h3, h4, g1, g2, g3, g4, g5, g6]
def isCode : Jvm.Cond → Bool
  | .code _ _ _ _ => true
  | _ => false
theorem all_split {L : List Jvm.Cond} {P : Jvm.Cond → Bool} (h1 : L.all (fun c => isCode c || P c) = true) (h2 : ∀ c ∈ L.filter isCode, P c = true) : L.all P = true := by
  refine List.all_eq_true.mpr fun c hc => ?_
  have h := List.all_eq_true.mp h1 c hc
  rcases Bool.eq_false_or_eq_true (isCode c) with hi | hi
  · exact h2 c (List.mem_filter.mpr ⟨hc, hi⟩)
  · simpa [hi] using h
set_option maxRecDepth 65536 in
theorem w_c0 : (Jvm.Cond.code x code maxLocals ret).before args0 about1 = true := code_word (m := ⟨1, 1⟩) (meth := k1m1) (c := k1c1) (by decide +kernel) rfl rfl rfl (by decide +kernel)
set_option maxRecDepth 65536 in
theorem w_c1 : (Jvm.Cond.code ({ cls := "java/lang/String", name := "<init>", desc := "([C)V" } : Jvm.MethodName) jdk_42_method_3_code (2 : Nat) (Option.none : Option Jvm.ClassFile.FieldType)).before args0 about1 = true := code_word (m := ⟨7, 1⟩) (meth := k7m1) (c := k7c1) (by decide +kernel) rfl rfl rfl (by decide +kernel)
set_option maxRecDepth 65536 in
theorem w_c2 : (Jvm.Cond.code ({ cls := "java/lang/String", name := "<init>", desc := "([CIILjava/lang/Void;)V" } : Jvm.MethodName) jdk_42_method_149_code (6 : Nat) (Option.none : Option Jvm.ClassFile.FieldType)).before args0 about1 = true := code_word (m := ⟨7, 7⟩) (meth := k7m7) (c := k7c7) (by decide +kernel) rfl rfl rfl (by decide +kernel)
set_option maxRecDepth 65536 in
theorem w_c3 : (Jvm.Cond.code ({ cls := "java/lang/Object", name := "<init>", desc := "()V" } : Jvm.MethodName) object_method_1_code (1 : Nat) (Option.none : Option Jvm.ClassFile.FieldType)).before args0 about1 = true := code_word (m := ⟨0, 0⟩) (meth := k0m0) (c := k0c0) (by decide +kernel) rfl rfl rfl (by decide +kernel)
set_option maxRecDepth 65536 in
theorem w_c4 : (Jvm.Cond.code ({ cls := "java/lang/StringUTF16", name := "compress", desc := "([CII)[B" } : Jvm.MethodName) jdk_52_method_16_code (6 : Nat) (Option.some (Jvm.ClassFile.FieldType.array Jvm.ClassFile.FieldType.byte))).before args0 about1 = true := code_word (m := ⟨8, 2⟩) (meth := k8m2) (c := k8c2) (by decide +kernel) rfl rfl rfl (by decide +kernel)
set_option maxRecDepth 65536 in
theorem w_c5 : (Jvm.Cond.code ({ cls := "java/lang/StringUTF16", name := "compress", desc := "([CI[BII)I" } : Jvm.MethodName) jdk_52_method_21_code (7 : Nat) (Option.some Jvm.ClassFile.FieldType.int)).before args0 about1 = true := code_word (m := ⟨8, 3⟩) (meth := k8m3) (c := k8c3) (by decide +kernel) rfl rfl rfl (by decide +kernel)
set_option maxRecDepth 65536 in
theorem w_c6 : (Jvm.Cond.code ({ cls := "java/lang/StringUTF16", name := "coderFromArrayLen", desc := "([BI)B" } : Jvm.MethodName) jdk_52_method_15_code (2 : Nat) (Option.some Jvm.ClassFile.FieldType.byte)).before args0 about1 = true := code_word (m := ⟨8, 1⟩) (meth := k8m1) (c := k8c1) (by decide +kernel) rfl rfl rfl (by decide +kernel)
set_option maxRecDepth 65536 in
theorem w_c7 : (Jvm.Cond.code ({ cls := "com/example/fides/fides/RecordId", name := "<init>", desc := "(Ljava/lang/String;Ljava/lang/String;)V" } : Jvm.MethodName) prog_13_method_1_code (3 : Nat) (Option.none : Option Jvm.ClassFile.FieldType)).before args0 about1 = true := code_word (m := ⟨10, 0⟩) (meth := k10m0) (c := k10c0) (by decide +kernel) rfl rfl rfl (by decide +kernel)
set_option maxRecDepth 65536 in
theorem w_c8 : (Jvm.Cond.code ({ cls := "java/lang/Record", name := "<init>", desc := "()V" } : Jvm.MethodName) jdk_30_method_1_code (1 : Nat) (Option.none : Option Jvm.ClassFile.FieldType)).before args0 about1 = true := code_word (m := ⟨9, 0⟩) (meth := k9m0) (c := k9c0) (by decide +kernel) rfl rfl rfl (by decide +kernel)
set_option maxRecDepth 65536 in
theorem w_c9 : (Jvm.Cond.code ({ cls := "java/util/Objects", name := "requireNonNull", desc := "(Ljava/lang/Object;Ljava/lang/String;)Ljava/lang/Object;" } : Jvm.MethodName) jdk_31_method_11_code (2 : Nat) (Option.some (Jvm.ClassFile.FieldType.object "java/lang/Object"))).before args0 about1 = true := code_word (m := ⟨11, 1⟩) (meth := k11m1) (c := k11c1) (by decide +kernel) rfl rfl rfl (by decide +kernel)
set_option maxRecDepth 65536 in
theorem w_c10 : (Jvm.Cond.code ({ cls := "java/lang/String", name := "isEmpty", desc := "()Z" } : Jvm.MethodName) jdk_42_method_55_code (1 : Nat) (Option.some Jvm.ClassFile.FieldType.boolean)).before args0 about1 = true := code_word (m := ⟨7, 4⟩) (meth := k7m4) (c := k7c4) (by decide +kernel) rfl rfl rfl (by decide +kernel)
set_option maxRecDepth 65536 in
theorem w_c11 : (Jvm.Cond.code ({ cls := "com/example/fides/fides/RecordId", name := "toString", desc := "()Ljava/lang/String;" } : Jvm.MethodName) prog_13_method_2_code (1 : Nat) (Option.some (Jvm.ClassFile.FieldType.object "java/lang/String"))).before args0 about1 = true := code_word (m := ⟨10, 1⟩) (meth := k10m1) (c := k10c1) (by decide +kernel) rfl rfl rfl (by decide +kernel)
set_option maxRecDepth 65536 in
theorem w_c12 : (Jvm.Cond.code ({ cls := "java/lang/StringBuilder", name := "<init>", desc := "()V" } : Jvm.MethodName) jdk_67_method_1_code (1 : Nat) (Option.none : Option Jvm.ClassFile.FieldType)).before args0 about1 = true := code_word (m := ⟨14, 0⟩) (meth := k14m0) (c := k14c0) (by decide +kernel) rfl rfl rfl (by decide +kernel)
set_option maxRecDepth 65536 in
theorem w_c13 : (Jvm.Cond.code ({ cls := "java/lang/AbstractStringBuilder", name := "<init>", desc := "(I)V" } : Jvm.MethodName) jdk_68_method_2_code (2 : Nat) (Option.none : Option Jvm.ClassFile.FieldType)).before args0 about1 = true := code_word (m := ⟨13, 1⟩) (meth := k13m1) (c := k13c1) (by decide +kernel) rfl rfl rfl (by decide +kernel)
set_option maxRecDepth 65536 in
theorem w_c14 : (Jvm.Cond.code ({ cls := "java/lang/StringBuilder", name := "append", desc := "(Ljava/lang/String;)Ljava/lang/StringBuilder;" } : Jvm.MethodName) jdk_67_method_7_code (2 : Nat) (Option.some (Jvm.ClassFile.FieldType.object "java/lang/StringBuilder"))).before args0 about1 = true := code_word (m := ⟨14, 1⟩) (meth := k14m1) (c := k14c1) (by decide +kernel) rfl rfl rfl (by decide +kernel)
set_option maxRecDepth 65536 in
theorem w_c15 : (Jvm.Cond.code ({ cls := "java/lang/AbstractStringBuilder", name := "append", desc := "(Ljava/lang/String;)Ljava/lang/AbstractStringBuilder;" } : Jvm.MethodName) jdk_68_method_22_code (3 : Nat) (Option.some (Jvm.ClassFile.FieldType.object "java/lang/AbstractStringBuilder"))).before args0 about1 = true := code_word (m := ⟨13, 4⟩) (meth := k13m4) (c := k13c4) (by decide +kernel) rfl rfl rfl (by decide +kernel)
set_option maxRecDepth 65536 in
theorem w_c16 : (Jvm.Cond.code ({ cls := "java/lang/String", name := "length", desc := "()I" } : Jvm.MethodName) jdk_42_method_54_code (1 : Nat) (Option.some Jvm.ClassFile.FieldType.int)).before args0 about1 = true := code_word (m := ⟨7, 3⟩) (meth := k7m3) (c := k7c3) (by decide +kernel) rfl rfl rfl (by decide +kernel)
set_option maxRecDepth 65536 in
theorem w_c17 : (Jvm.Cond.code ({ cls := "java/lang/String", name := "coder", desc := "()B" } : Jvm.MethodName) jdk_42_method_152_code (1 : Nat) (Option.some Jvm.ClassFile.FieldType.byte)).before args0 about1 = true := code_word (m := ⟨7, 9⟩) (meth := k7m9) (c := k7c9) (by decide +kernel) rfl rfl rfl (by decide +kernel)
set_option maxRecDepth 65536 in
theorem w_c18 : (Jvm.Cond.code ({ cls := "java/lang/AbstractStringBuilder", name := "ensureCapacityInternal", desc := "(I)V" } : Jvm.MethodName) jdk_68_method_9_code (3 : Nat) (Option.none : Option Jvm.ClassFile.FieldType)).before args0 about1 = true := code_word (m := ⟨13, 3⟩) (meth := k13m3) (c := k13c3) (by decide +kernel) rfl rfl rfl (by decide +kernel)
set_option maxRecDepth 65536 in
theorem w_c19 : (Jvm.Cond.code ({ cls := "java/lang/AbstractStringBuilder", name := "putStringAt", desc := "(ILjava/lang/String;)V" } : Jvm.MethodName) jdk_68_method_73_code (3 : Nat) (Option.none : Option Jvm.ClassFile.FieldType)).before args0 about1 = true := code_word (m := ⟨13, 8⟩) (meth := k13m8) (c := k13c8) (by decide +kernel) rfl rfl rfl (by decide +kernel)
set_option maxRecDepth 65536 in
theorem w_c20 : (Jvm.Cond.code ({ cls := "java/lang/AbstractStringBuilder", name := "inflateIfNeededFor", desc := "(Ljava/lang/String;)V" } : Jvm.MethodName) jdk_68_method_71_code (2 : Nat) (Option.none : Option Jvm.ClassFile.FieldType)).before args0 about1 = true := code_word (m := ⟨13, 7⟩) (meth := k13m7) (c := k13c7) (by decide +kernel) rfl rfl rfl (by decide +kernel)
set_option maxRecDepth 65536 in
theorem w_c21 : (Jvm.Cond.code ({ cls := "java/lang/String", name := "getBytes", desc := "([BIB)V" } : Jvm.MethodName) jdk_42_method_147_code (4 : Nat) (Option.none : Option Jvm.ClassFile.FieldType)).before args0 about1 = true := code_word (m := ⟨7, 6⟩) (meth := k7m6) (c := k7c6) (by decide +kernel) rfl rfl rfl (by decide +kernel)
set_option maxRecDepth 65536 in
theorem w_c22 : (Jvm.Cond.code ({ cls := "java/lang/StringBuilder", name := "toString", desc := "()Ljava/lang/String;" } : Jvm.MethodName) jdk_67_method_42_code (1 : Nat) (Option.some (Jvm.ClassFile.FieldType.object "java/lang/String"))).before args0 about1 = true := code_word (m := ⟨14, 2⟩) (meth := k14m2) (c := k14c2) (by decide +kernel) rfl rfl rfl (by decide +kernel)
set_option maxRecDepth 65536 in
theorem w_c23 : (Jvm.Cond.code ({ cls := "java/lang/String", name := "<init>", desc := "(Ljava/lang/StringBuilder;)V" } : Jvm.MethodName) jdk_42_method_53_code (2 : Nat) (Option.none : Option Jvm.ClassFile.FieldType)).before args0 about1 = true := code_word (m := ⟨7, 2⟩) (meth := k7m2) (c := k7c2) (by decide +kernel) rfl rfl rfl (by decide +kernel)
set_option maxRecDepth 65536 in
theorem w_c24 : (Jvm.Cond.code ({ cls := "java/lang/String", name := "<init>", desc := "(Ljava/lang/AbstractStringBuilder;Ljava/lang/Void;)V" } : Jvm.MethodName) jdk_42_method_150_code (5 : Nat) (Option.none : Option Jvm.ClassFile.FieldType)).before args0 about1 = true := code_word (m := ⟨7, 8⟩) (meth := k7m8) (c := k7c8) (by decide +kernel) rfl rfl rfl (by decide +kernel)
set_option maxRecDepth 65536 in
theorem w_c25 : (Jvm.Cond.code ({ cls := "java/lang/AbstractStringBuilder", name := "getValue", desc := "()[B" } : Jvm.MethodName) jdk_68_method_64_code (1 : Nat) (Option.some (Jvm.ClassFile.FieldType.array Jvm.ClassFile.FieldType.byte))).before args0 about1 = true := code_word (m := ⟨13, 5⟩) (meth := k13m5) (c := k13c5) (by decide +kernel) rfl rfl rfl (by decide +kernel)
set_option maxRecDepth 65536 in
theorem w_c26 : (Jvm.Cond.code ({ cls := "java/lang/StringBuilder", name := "length", desc := "()I" } : Jvm.MethodName) jdk_67_method_93_code (1 : Nat) (Option.some Jvm.ClassFile.FieldType.int)).before args0 about1 = true := code_word (m := ⟨14, 3⟩) (meth := k14m3) (c := k14c3) (by decide +kernel) rfl rfl rfl (by decide +kernel)
set_option maxRecDepth 65536 in
theorem w_c27 : (Jvm.Cond.code ({ cls := "java/lang/AbstractStringBuilder", name := "length", desc := "()I" } : Jvm.MethodName) jdk_68_method_6_code (1 : Nat) (Option.some Jvm.ClassFile.FieldType.int)).before args0 about1 = true := code_word (m := ⟨13, 2⟩) (meth := k13m2) (c := k13c2) (by decide +kernel) rfl rfl rfl (by decide +kernel)
set_option maxRecDepth 65536 in
theorem w_c28 : (Jvm.Cond.code ({ cls := "java/lang/AbstractStringBuilder", name := "isLatin1", desc := "()Z" } : Jvm.MethodName) jdk_68_method_68_code (1 : Nat) (Option.some Jvm.ClassFile.FieldType.boolean)).before args0 about1 = true := code_word (m := ⟨13, 6⟩) (meth := k13m6) (c := k13c6) (by decide +kernel) rfl rfl rfl (by decide +kernel)
set_option maxRecDepth 65536 in
theorem w_c29 : (Jvm.Cond.code ({ cls := "java/util/Arrays", name := "copyOfRange", desc := "([BII)[B" } : Jvm.MethodName) jdk_65_method_132_code (3 : Nat) (Option.some (Jvm.ClassFile.FieldType.array Jvm.ClassFile.FieldType.byte))).before args0 about1 = true := code_word (m := ⟨16, 2⟩) (meth := k16m2) (c := k16c2) (by decide +kernel) rfl rfl rfl (by decide +kernel)
set_option maxRecDepth 65536 in
theorem w_c30 : (Jvm.Cond.code ({ cls := "java/util/Arrays", name := "copyOfRangeByte", desc := "([BII)[B" } : Jvm.MethodName) jdk_65_method_133_code (5 : Nat) (Option.some (Jvm.ClassFile.FieldType.array Jvm.ClassFile.FieldType.byte))).before args0 about1 = true := code_word (m := ⟨16, 3⟩) (meth := k16m3) (c := k16c3) (by decide +kernel) rfl rfl rfl (by decide +kernel)
set_option maxRecDepth 65536 in
theorem w_c31 : (Jvm.Cond.code ({ cls := "java/util/Arrays", name := "checkLength", desc := "(II)V" } : Jvm.MethodName) jdk_65_method_131_code (2 : Nat) (Option.none : Option Jvm.ClassFile.FieldType)).before args0 about1 = true := code_word (m := ⟨16, 1⟩) (meth := k16m1) (c := k16c1) (by decide +kernel) rfl rfl rfl (by decide +kernel)
set_option maxRecDepth 65536 in
theorem w_c32 : (Jvm.Cond.code ({ cls := "java/lang/Math", name := "min", desc := "(II)I" } : Jvm.MethodName) jdk_29_method_69_code (2 : Nat) (Option.some Jvm.ClassFile.FieldType.int)).before args0 about1 = true := code_word (m := ⟨17, 1⟩) (meth := k17m1) (c := k17c1) (by decide +kernel) rfl rfl rfl (by decide +kernel)
set_option maxRecDepth 65536 in
theorem w_c33 : (Jvm.Cond.code ({ cls := "com/example/fides/fides/RecordIdToStringPinLaw", name := "at", desc := "(Ljava/lang/String;III[C[C)Z" } : Jvm.MethodName) method_3_code (7 : Nat) (Option.some Jvm.ClassFile.FieldType.boolean)).before args0 about1 = true := code_word (m := ⟨1, 2⟩) (meth := k1m2) (c := k1c2) (by decide +kernel) rfl rfl rfl (by decide +kernel)
set_option maxRecDepth 65536 in
theorem w_c34 : (Jvm.Cond.code ({ cls := "java/lang/String", name := "charAt", desc := "(I)C" } : Jvm.MethodName) jdk_42_method_56_code (2 : Nat) (Option.some Jvm.ClassFile.FieldType.char)).before args0 about1 = true := code_word (m := ⟨7, 5⟩) (meth := k7m5) (c := k7c5) (by decide +kernel) rfl rfl rfl (by decide +kernel)
set_option maxRecDepth 65536 in
theorem w_c35 : (Jvm.Cond.code ({ cls := "java/lang/String", name := "isLatin1", desc := "()Z" } : Jvm.MethodName) jdk_42_method_154_code (1 : Nat) (Option.some Jvm.ClassFile.FieldType.boolean)).before args0 about1 = true := code_word (m := ⟨7, 10⟩) (meth := k7m10) (c := k7c10) (by decide +kernel) rfl rfl rfl (by decide +kernel)
set_option maxRecDepth 65536 in
theorem w_c36 : (Jvm.Cond.code ({ cls := "java/lang/StringLatin1", name := "charAt", desc := "([BI)C" } : Jvm.MethodName) jdk_43_method_2_code (2 : Nat) (Option.some Jvm.ClassFile.FieldType.char)).before args0 about1 = true := code_word (m := ⟨18, 1⟩) (meth := k18m1) (c := k18c1) (by decide +kernel) rfl rfl rfl (by decide +kernel)
set_option maxRecDepth 65536 in
theorem w_c37 : (Jvm.Cond.code ({ cls := "java/lang/String", name := "checkIndex", desc := "(II)V" } : Jvm.MethodName) jdk_42_method_155_code (2 : Nat) (Option.none : Option Jvm.ClassFile.FieldType)).before args0 about1 = true := code_word (m := ⟨7, 11⟩) (meth := k7m11) (c := k7c11) (by decide +kernel) rfl rfl rfl (by decide +kernel)
set_option maxRecDepth 65536 in
theorem w_c38 : (Jvm.Cond.code ({ cls := "jdk/internal/util/Preconditions", name := "checkIndex", desc := "(IILjava/util/function/BiFunction;)I" } : Jvm.MethodName) jdk_41_method_11_code (3 : Nat) (Option.some Jvm.ClassFile.FieldType.int)).before args0 about1 = true := code_word (m := ⟨19, 1⟩) (meth := k19m1) (c := k19c1) (by decide +kernel) rfl rfl rfl (by decide +kernel)
def codes1 : List Jvm.Cond := [Jvm.Cond.code x code maxLocals ret, Jvm.Cond.code ({ cls := "java/lang/String", name := "<init>", desc := "([C)V" } : Jvm.MethodName) jdk_42_method_3_code (2 : Nat) (Option.none : Option Jvm.ClassFile.FieldType), Jvm.Cond.code ({ cls := "java/lang/String", name := "<init>", desc := "([CIILjava/lang/Void;)V" } : Jvm.MethodName) jdk_42_method_149_code (6 : Nat) (Option.none : Option Jvm.ClassFile.FieldType), Jvm.Cond.code ({ cls := "java/lang/Object", name := "<init>", desc := "()V" } : Jvm.MethodName) object_method_1_code (1 : Nat) (Option.none : Option Jvm.ClassFile.FieldType), Jvm.Cond.code ({ cls := "java/lang/StringUTF16", name := "compress", desc := "([CII)[B" } : Jvm.MethodName) jdk_52_method_16_code (6 : Nat) (Option.some (Jvm.ClassFile.FieldType.array Jvm.ClassFile.FieldType.byte)), Jvm.Cond.code ({ cls := "java/lang/StringUTF16", name := "compress", desc := "([CI[BII)I" } : Jvm.MethodName) jdk_52_method_21_code (7 : Nat) (Option.some Jvm.ClassFile.FieldType.int), Jvm.Cond.code ({ cls := "java/lang/StringUTF16", name := "coderFromArrayLen", desc := "([BI)B" } : Jvm.MethodName) jdk_52_method_15_code (2 : Nat) (Option.some Jvm.ClassFile.FieldType.byte), Jvm.Cond.code ({ cls := "com/example/fides/fides/RecordId", name := "<init>", desc := "(Ljava/lang/String;Ljava/lang/String;)V" } : Jvm.MethodName) prog_13_method_1_code (3 : Nat) (Option.none : Option Jvm.ClassFile.FieldType), Jvm.Cond.code ({ cls := "java/lang/Record", name := "<init>", desc := "()V" } : Jvm.MethodName) jdk_30_method_1_code (1 : Nat) (Option.none : Option Jvm.ClassFile.FieldType), Jvm.Cond.code ({ cls := "java/util/Objects", name := "requireNonNull", desc := "(Ljava/lang/Object;Ljava/lang/String;)Ljava/lang/Object;" } : Jvm.MethodName) jdk_31_method_11_code (2 : Nat) (Option.some (Jvm.ClassFile.FieldType.object "java/lang/Object")), Jvm.Cond.code ({ cls := "java/lang/String", name := "isEmpty", desc := "()Z" } : Jvm.MethodName) jdk_42_method_55_code (1 : Nat) (Option.some Jvm.ClassFile.FieldType.boolean), Jvm.Cond.code ({ cls := "com/example/fides/fides/RecordId", name := "toString", desc := "()Ljava/lang/String;" } : Jvm.MethodName) prog_13_method_2_code (1 : Nat) (Option.some (Jvm.ClassFile.FieldType.object "java/lang/String")), Jvm.Cond.code ({ cls := "java/lang/StringBuilder", name := "<init>", desc := "()V" } : Jvm.MethodName) jdk_67_method_1_code (1 : Nat) (Option.none : Option Jvm.ClassFile.FieldType), Jvm.Cond.code ({ cls := "java/lang/AbstractStringBuilder", name := "<init>", desc := "(I)V" } : Jvm.MethodName) jdk_68_method_2_code (2 : Nat) (Option.none : Option Jvm.ClassFile.FieldType), Jvm.Cond.code ({ cls := "java/lang/StringBuilder", name := "append", desc := "(Ljava/lang/String;)Ljava/lang/StringBuilder;" } : Jvm.MethodName) jdk_67_method_7_code (2 : Nat) (Option.some (Jvm.ClassFile.FieldType.object "java/lang/StringBuilder")), Jvm.Cond.code ({ cls := "java/lang/AbstractStringBuilder", name := "append", desc := "(Ljava/lang/String;)Ljava/lang/AbstractStringBuilder;" } : Jvm.MethodName) jdk_68_method_22_code (3 : Nat) (Option.some (Jvm.ClassFile.FieldType.object "java/lang/AbstractStringBuilder")), Jvm.Cond.code ({ cls := "java/lang/String", name := "length", desc := "()I" } : Jvm.MethodName) jdk_42_method_54_code (1 : Nat) (Option.some Jvm.ClassFile.FieldType.int), Jvm.Cond.code ({ cls := "java/lang/String", name := "coder", desc := "()B" } : Jvm.MethodName) jdk_42_method_152_code (1 : Nat) (Option.some Jvm.ClassFile.FieldType.byte), Jvm.Cond.code ({ cls := "java/lang/AbstractStringBuilder", name := "ensureCapacityInternal", desc := "(I)V" } : Jvm.MethodName) jdk_68_method_9_code (3 : Nat) (Option.none : Option Jvm.ClassFile.FieldType), Jvm.Cond.code ({ cls := "java/lang/AbstractStringBuilder", name := "putStringAt", desc := "(ILjava/lang/String;)V" } : Jvm.MethodName) jdk_68_method_73_code (3 : Nat) (Option.none : Option Jvm.ClassFile.FieldType), Jvm.Cond.code ({ cls := "java/lang/AbstractStringBuilder", name := "inflateIfNeededFor", desc := "(Ljava/lang/String;)V" } : Jvm.MethodName) jdk_68_method_71_code (2 : Nat) (Option.none : Option Jvm.ClassFile.FieldType), Jvm.Cond.code ({ cls := "java/lang/String", name := "getBytes", desc := "([BIB)V" } : Jvm.MethodName) jdk_42_method_147_code (4 : Nat) (Option.none : Option Jvm.ClassFile.FieldType), Jvm.Cond.code ({ cls := "java/lang/StringBuilder", name := "toString", desc := "()Ljava/lang/String;" } : Jvm.MethodName) jdk_67_method_42_code (1 : Nat) (Option.some (Jvm.ClassFile.FieldType.object "java/lang/String")), Jvm.Cond.code ({ cls := "java/lang/String", name := "<init>", desc := "(Ljava/lang/StringBuilder;)V" } : Jvm.MethodName) jdk_42_method_53_code (2 : Nat) (Option.none : Option Jvm.ClassFile.FieldType), Jvm.Cond.code ({ cls := "java/lang/String", name := "<init>", desc := "(Ljava/lang/AbstractStringBuilder;Ljava/lang/Void;)V" } : Jvm.MethodName) jdk_42_method_150_code (5 : Nat) (Option.none : Option Jvm.ClassFile.FieldType), Jvm.Cond.code ({ cls := "java/lang/AbstractStringBuilder", name := "getValue", desc := "()[B" } : Jvm.MethodName) jdk_68_method_64_code (1 : Nat) (Option.some (Jvm.ClassFile.FieldType.array Jvm.ClassFile.FieldType.byte)), Jvm.Cond.code ({ cls := "java/lang/StringBuilder", name := "length", desc := "()I" } : Jvm.MethodName) jdk_67_method_93_code (1 : Nat) (Option.some Jvm.ClassFile.FieldType.int), Jvm.Cond.code ({ cls := "java/lang/AbstractStringBuilder", name := "length", desc := "()I" } : Jvm.MethodName) jdk_68_method_6_code (1 : Nat) (Option.some Jvm.ClassFile.FieldType.int), Jvm.Cond.code ({ cls := "java/lang/AbstractStringBuilder", name := "isLatin1", desc := "()Z" } : Jvm.MethodName) jdk_68_method_68_code (1 : Nat) (Option.some Jvm.ClassFile.FieldType.boolean), Jvm.Cond.code ({ cls := "java/util/Arrays", name := "copyOfRange", desc := "([BII)[B" } : Jvm.MethodName) jdk_65_method_132_code (3 : Nat) (Option.some (Jvm.ClassFile.FieldType.array Jvm.ClassFile.FieldType.byte)), Jvm.Cond.code ({ cls := "java/util/Arrays", name := "copyOfRangeByte", desc := "([BII)[B" } : Jvm.MethodName) jdk_65_method_133_code (5 : Nat) (Option.some (Jvm.ClassFile.FieldType.array Jvm.ClassFile.FieldType.byte)), Jvm.Cond.code ({ cls := "java/util/Arrays", name := "checkLength", desc := "(II)V" } : Jvm.MethodName) jdk_65_method_131_code (2 : Nat) (Option.none : Option Jvm.ClassFile.FieldType), Jvm.Cond.code ({ cls := "java/lang/Math", name := "min", desc := "(II)I" } : Jvm.MethodName) jdk_29_method_69_code (2 : Nat) (Option.some Jvm.ClassFile.FieldType.int), Jvm.Cond.code ({ cls := "com/example/fides/fides/RecordIdToStringPinLaw", name := "at", desc := "(Ljava/lang/String;III[C[C)Z" } : Jvm.MethodName) method_3_code (7 : Nat) (Option.some Jvm.ClassFile.FieldType.boolean), Jvm.Cond.code ({ cls := "java/lang/String", name := "charAt", desc := "(I)C" } : Jvm.MethodName) jdk_42_method_56_code (2 : Nat) (Option.some Jvm.ClassFile.FieldType.char), Jvm.Cond.code ({ cls := "java/lang/String", name := "isLatin1", desc := "()Z" } : Jvm.MethodName) jdk_42_method_154_code (1 : Nat) (Option.some Jvm.ClassFile.FieldType.boolean), Jvm.Cond.code ({ cls := "java/lang/StringLatin1", name := "charAt", desc := "([BI)C" } : Jvm.MethodName) jdk_43_method_2_code (2 : Nat) (Option.some Jvm.ClassFile.FieldType.char), Jvm.Cond.code ({ cls := "java/lang/String", name := "checkIndex", desc := "(II)V" } : Jvm.MethodName) jdk_42_method_155_code (2 : Nat) (Option.none : Option Jvm.ClassFile.FieldType), Jvm.Cond.code ({ cls := "jdk/internal/util/Preconditions", name := "checkIndex", desc := "(IILjava/util/function/BiFunction;)I" } : Jvm.MethodName) jdk_41_method_11_code (3 : Nat) (Option.some Jvm.ClassFile.FieldType.int)]
set_option maxRecDepth 65536 in
theorem codes_eq : words1.filter isCode = codes1 := rfl
theorem w_codes : ∀ c ∈ words1.filter isCode, c.before args0 about1 = true := by
  rw [codes_eq]
  intro c hc
  simp only [codes1, List.mem_cons, List.not_mem_nil, or_false] at hc
  rcases hc with rfl | rfl | rfl | rfl | rfl | rfl | rfl | rfl | rfl | rfl | rfl | rfl | rfl | rfl | rfl | rfl | rfl | rfl | rfl | rfl | rfl | rfl | rfl | rfl | rfl | rfl | rfl | rfl | rfl | rfl | rfl | rfl | rfl | rfl | rfl | rfl | rfl | rfl | rfl
  · exact w_c0
  · exact w_c1
  · exact w_c2
  · exact w_c3
  · exact w_c4
  · exact w_c5
  · exact w_c6
  · exact w_c7
  · exact w_c8
  · exact w_c9
  · exact w_c10
  · exact w_c11
  · exact w_c12
  · exact w_c13
  · exact w_c14
  · exact w_c15
  · exact w_c16
  · exact w_c17
  · exact w_c18
  · exact w_c19
  · exact w_c20
  · exact w_c21
  · exact w_c22
  · exact w_c23
  · exact w_c24
  · exact w_c25
  · exact w_c26
  · exact w_c27
  · exact w_c28
  · exact w_c29
  · exact w_c30
  · exact w_c31
  · exact w_c32
  · exact w_c33
  · exact w_c34
  · exact w_c35
  · exact w_c36
  · exact w_c37
  · exact w_c38
set_option maxRecDepth 65536 in
theorem w_t1 : (words1.take 24).all (fun c => isCode c || c.before args0 about1) = true := by decide +kernel
set_option maxRecDepth 65536 in
theorem w_t2 : ((words1.drop 24).take 24).all (fun c => isCode c || c.before args0 about1) = true := by decide +kernel
set_option maxRecDepth 65536 in
theorem w_t3 : (((words1.drop 24).drop 24).take 24).all (fun c => isCode c || c.before args0 about1) = true := by decide +kernel
set_option maxRecDepth 65536 in
theorem w_t4 : ((((words1.drop 24).drop 24).drop 24).take 24).all (fun c => isCode c || c.before args0 about1) = true := by decide +kernel
set_option maxRecDepth 65536 in
theorem w_t5 : (((((words1.drop 24).drop 24).drop 24).drop 24).take 24).all (fun c => isCode c || c.before args0 about1) = true := by decide +kernel
set_option maxRecDepth 65536 in
theorem w_t6 : ((((((words1.drop 24).drop 24).drop 24).drop 24).drop 24).take 24).all (fun c => isCode c || c.before args0 about1) = true := by decide +kernel
set_option maxRecDepth 65536 in
theorem w_t7 : (((((((words1.drop 24).drop 24).drop 24).drop 24).drop 24).drop 24).take 24).all (fun c => isCode c || c.before args0 about1) = true := by decide +kernel
set_option maxRecDepth 65536 in
theorem w_t8 : ((((((((words1.drop 24).drop 24).drop 24).drop 24).drop 24).drop 24).drop 24).take 24).all (fun c => isCode c || c.before args0 about1) = true := by decide +kernel
set_option maxRecDepth 65536 in
theorem w_t9 : ((((((((words1.drop 24).drop 24).drop 24).drop 24).drop 24).drop 24).drop 24).drop 24).all (fun c => isCode c || c.before args0 about1) = true := by decide +kernel
theorem w_tables : (allAtoms (Jvm.Cond.code x code maxLocals ret :: tables_1)).before args0 about1 = true := by
  rw [allAtoms_all]
  show words1.all (fun c => c.before args0 about1) = true
  refine all_split ?_ w_codes
  rw [← List.take_append_drop 24 words1, List.all_append, w_t1, ← List.take_append_drop 24 (words1.drop 24), List.all_append, w_t2, ← List.take_append_drop 24 ((words1.drop 24).drop 24), List.all_append, w_t3, ← List.take_append_drop 24 (((words1.drop 24).drop 24).drop 24), List.all_append, w_t4, ← List.take_append_drop 24 ((((words1.drop 24).drop 24).drop 24).drop 24), List.all_append, w_t5, ← List.take_append_drop 24 (((((words1.drop 24).drop 24).drop 24).drop 24).drop 24), List.all_append, w_t6, ← List.take_append_drop 24 ((((((words1.drop 24).drop 24).drop 24).drop 24).drop 24).drop 24), List.all_append, w_t7, ← List.take_append_drop 24 (((((((words1.drop 24).drop 24).drop 24).drop 24).drop 24).drop 24).drop 24), List.all_append, w_t8, w_t9]
  rfl
set_option maxRecDepth 65536 in
theorem w_rest : rest_1_c.before args0 about1 = true := by decide +kernel
set_option maxRecDepth 65536 in
theorem w_case : (Jvm.Cond.and given_1 narrow_1).before args0 about1 = true := by decide +kernel
set_option maxRecDepth 65536 in
theorem w_consts : constsHeld consts_1 about1 := Jvm.Lit.constsHeldB_iff.mp (by decide +kernel)
theorem w_applies : (headSpec (Jvm.Cond.code x code maxLocals ret :: tables_1) room_1).applies x e0.platform about1 = true :=
  (Spec.applies_iff w_frames).mpr ⟨w_running, w_runnable, w_alone, w_named, w_hears, w_ripe, w_room, w_tables⟩
theorem atStart : AtStart classFile x code maxLocals ret World_1 tables_1 room_1 Calls_1 rest_1 Pre_1 launch0 p0 e0 about1 theMethod args0 below0 :=
  ⟨lists_1, trivial, launch0.admits_env _ _ _, launch0.least_env, fairChoices_fair.cas, fairChoices_fair.clock, w_frames, w_args, w_heap, w_applies, ⟨w_consts, trivial⟩, w_rest, w_case⟩
end start1
theorem witness_1 : WitnessClaimed_1 := ⟨start1.p0, start1.e0, start1.about1, start1.theMethod, start1.args0, start1.below0, start1.atStart⟩
end Jvm.Pilot.@@N@@
