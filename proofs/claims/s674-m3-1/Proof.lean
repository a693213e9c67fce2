import JvmDerived
import JvmDerived.Pilot.@@N@@Statement
import JvmDerived.Pilot.@@N@@Code
set_option linter.unusedVariables false
set_option linter.unusedSimpArgs false
namespace Jvm.RoadKit
open Sem ClassFile Op Lib Jvm.Stand Jvm.Free Jvm.LawKit
section New
variable {p : Program} {l : Launch} {e : Env} {R : Room} {s : State} {m : MethodId} {args : Array Value} {below : List Frame} {meth : Method} {c : Code} {T : State} {locs : List Loc} {cells slots : Nat}
theorem retI (X : Stand p l e R s m args below meth c T locs cells slots) (hx : p.tables.exec = Jvm.exec) {pc : Nat} {Ls : Array Slot} {z : Int32} {rest : List Value} (hret : meth.sig.returnType = some .int) (hd : decode c.code pc = .ok (.ireturn, 1)) {fs : List Frame}
    (hl : ∀ (f : JFrame) (acts : List Action), f.method = m → f.locked = none → f.entered = [] → (doReturn e (T.setTop f) acts (some (.int z))).1 = T.setFrames fs) : Steps p.tables e below (T.setTop (mkF m pc Ls (.int z :: rest))) (T.setFrames fs) := by
  have hm' : T.vm.method? m = some meth := X.method'
  have hn : narrow .int (.int z) = .int z := rfl
  show Steps p.tables e below (T.setTop { method := m, pc := pc, locals := Ls, stack := _ :: rest, locked := none }) _
  jvm_step X.here [X.here.top, hx, hd, hm', hret, hn]
  first | (intro acts; rw [hl _ acts rfl rfl rfl]) | rw [hl _ _ rfl rfl rfl]
  exact Steps.refl _
end New
end Jvm.RoadKit
namespace Jvm.Pilot.@@N@@
open Jvm Jvm.ClassFile Sem Op Lib Jvm.Free Jvm.Stand Jvm.LawKit Jvm.RoadKit Bundle Jvm.Pilot.@@N@@.Jvm.D
theorem hq {a0 : Array Value} {Z : State} (hw : ∀ d ∈ tables_1, d.before a0 Z = true) (i : Nat) {d : Jvm.Cond} (h : tables_1[i]? = some d) : d.before a0 Z = true := hw _ (List.mem_of_getElem? h)
theorem own_i1 {x a b : Int32} (h : x < a) (q : a ≤ b) : x < b := by
  simp only [Int32.lt_iff_toInt_lt, Int32.le_iff_toInt_le, ← Int32.toInt_inj] at *
  omega
theorem own_i2 {x a b : Int32} (h : x < a) (q : a ≤ b) : ¬ (b < x) := by
  simp only [Int32.lt_iff_toInt_lt, Int32.le_iff_toInt_le, ← Int32.toInt_inj] at *
  omega
theorem own_i3 {x a b : Int32} (h : x < a) (q : a ≤ b) : ¬ (x = b) := by
  simp only [Int32.lt_iff_toInt_lt, Int32.le_iff_toInt_le, ← Int32.toInt_inj] at *
  omega
theorem own_i4 {x a b : Int32} (h : ¬ (x < a)) (q : b ≤ a) : ¬ (x < b) := by
  simp only [Int32.lt_iff_toInt_lt, Int32.le_iff_toInt_le, ← Int32.toInt_inj] at *
  omega
theorem own_i5 {x a b : Int32} (h : ¬ (x < a)) (q : b < a) : ¬ (x = b) := by
  simp only [Int32.lt_iff_toInt_lt, Int32.le_iff_toInt_le, ← Int32.toInt_inj] at *
  omega
theorem own_i12 {x a b : Int32} (h : ¬ (x < a)) (q : b < a) : b < x := by
  simp only [Int32.lt_iff_toInt_lt, Int32.le_iff_toInt_le, ← Int32.toInt_inj] at *
  omega
theorem own_i6 {x a b : Int32} (h : a < x) (q : b ≤ a) : ¬ (x < b) := by
  simp only [Int32.lt_iff_toInt_lt, Int32.le_iff_toInt_le, ← Int32.toInt_inj] at *
  omega
theorem own_i7 {x a b : Int32} (h : a < x) (q : b ≤ a) : b < x := by
  simp only [Int32.lt_iff_toInt_lt, Int32.le_iff_toInt_le, ← Int32.toInt_inj] at *
  omega
theorem own_i8 {x a b : Int32} (h : a < x) (q : b ≤ a) : ¬ (x = b) := by
  simp only [Int32.lt_iff_toInt_lt, Int32.le_iff_toInt_le, ← Int32.toInt_inj] at *
  omega
theorem own_i9 {x a b : Int32} (h : ¬ (a < x)) (q : a ≤ b) : ¬ (b < x) := by
  simp only [Int32.lt_iff_toInt_lt, Int32.le_iff_toInt_le, ← Int32.toInt_inj] at *
  omega
theorem own_i10 {x a b : Int32} (h : ¬ (a < x)) (q : a < b) : ¬ (x = b) := by
  simp only [Int32.lt_iff_toInt_lt, Int32.le_iff_toInt_le, ← Int32.toInt_inj] at *
  omega
theorem own_i11 {x a b : Int32} (h : ¬ (a < x)) (q : a < b) : x < b := by
  simp only [Int32.lt_iff_toInt_lt, Int32.le_iff_toInt_le, ← Int32.toInt_inj] at *
  omega
def Sts (Z : State) (cst : Int32) (fv : Value) : Prop := Sta Z Z.heap "java/lang/String" "COMPACT_STRINGS" "Z" (.int cst) ∧ ¬ (cst = (0 : Int32)) ∧ Sta Z Z.heap "java/lang/StringUTF16" "$assertionsDisabled" "Z" (.int (1 : Int32)) ∧ Sta Z Z.heap "java/lang/StringUTF16" "HI_BYTE_SHIFT" "I" (.int (0 : Int32)) ∧ Sta Z Z.heap "java/lang/StringUTF16" "LO_BYTE_SHIFT" "I" (.int (8 : Int32)) ∧ Sta Z Z.heap "jdk/internal/util/Preconditions" "SIOOBE_FORMATTER" "Ljava/util/function/BiFunction;" fv ∧ fv.isRef = true
theorem own_narc (k : Int32) (h : 0 ≤ k.toInt ∧ k.toInt ≤ 65535) : nar .char k = k := by
  show k.toUInt32.toUInt16.toUInt32.toInt32 = k
  have c1 := c_i2c k
  exact Int32.toInt_inj.mp (by omega)
theorem own_narc2 (x : Int32) : 0 ≤ (nar .char x).toInt ∧ (nar .char x).toInt ≤ 65535 := by
  have c1 := c_i2c x
  exact ⟨c1.2.1, by have := c1.2.2; show (x.toUInt32.toUInt16.toUInt32.toInt32).toInt ≤ 65535; omega⟩

theorem own_lit (k : Int32) : True := trivial
theorem d15_0 : decode jdk_41_method_11_code 0 = .ok (.iload_n 0, 1) := by decide +kernel
theorem d15_1 : decode jdk_41_method_11_code 1 = .ok (.ifCond .lt 8, 3) := by decide +kernel
theorem d15_4 : decode jdk_41_method_11_code 4 = .ok (.iload_n 0, 1) := by decide +kernel
theorem d15_5 : decode jdk_41_method_11_code 5 = .ok (.iload_n 1, 1) := by decide +kernel
theorem d15_6 : decode jdk_41_method_11_code 6 = .ok (.if_icmp .lt 10, 3) := by decide +kernel
theorem d15_16 : decode jdk_41_method_11_code 16 = .ok (.iload_n 0, 1) := by decide +kernel
theorem d15_17 : decode jdk_41_method_11_code 17 = .ok (.ireturn, 1) := by decide +kernel
def Q15 (Z : State) (p0 : Int32) (p1 : Int32) (fv : Value) (h0 : Heap) (n0 : Nat) (v : Option Value) (h : Heap) (L : List Loc) : Prop := v = some (.int p0) ∧ Fr n0 L ∧ h = h0
theorem ef_rm15 (m : MethodId) (x0 : Int32) (x1 : Int32) (x2 : Value) (hcat2 : x2.category = 1) : entryFrame m #[(.int x0), (.int x1), x2] 3 = mkF m 0 #[.val (.int x0), .val (.int x1), .val x2] [] := by cases x2 <;> first | (rfl) | (exfalso; simp [Value.category] at hcat2)
theorem pnc_jdk_internal_util_Preconditions : plainName "jdk/internal/util/Preconditions" = true := by first | (simp [plainName, overriddenIn]; done) | decide +kernel
set_option maxRecDepth 65536 in
set_option maxHeartbeats 40000000 in
theorem rm15 (l : Launch) (Z : State) (a0 : Array Value) (hw : ∀ d ∈ tables_1, d.before a0 Z = true) (ws : List Jvm.Cond) (p0 : Int32) (p1 : Int32) (fv : Value) (h0 : Heap) (n0 : Nat) (Z0 : n0 ≤ h0.size) (hlo : ¬ (p0 < (0 : Int32))) (hhi : p0 < p1) (hfv : fv.isRef = true) :
  MetFree l (⟨"jdk/internal/util/Preconditions", "checkIndex", "(IILjava/util/function/BiFunction;)I"⟩ : MethodName) (head1 (Jvm.Cond.code (⟨"jdk/internal/util/Preconditions", "checkIndex", "(IILjava/util/function/BiFunction;)I"⟩ : MethodName) jdk_41_method_11_code 3 (some .int) :: ws) ({ frames := 0, cells := 0, slots := 0, locals := 0 } : Room)) (fun a U => a = #[(.int p0), (.int p1), fv] ∧ Z.Warmed39 U.vm ∧ U.heap = h0) (fun _ _ _ _ _ => True) (fun _ U o U' => ∃ v L, o = .returned v ∧ Q15 Z p0 p1 fv h0 n0 v U'.heap L ∧ FrameEnd U o U' L ({ frames := 0, cells := 0, slots := 0, locals := 0 } : Room).cells ({ frames := 0, cells := 0, slots := 0, locals := 0 } : Room).slots) := by
 refine MetFree.of_bodySF (plainFor_of_name pnc_jdk_internal_util_Preconditions) hisR ?_
 intro p e s m args below meth c s₁ Bd hml0 hP hK
 obtain ⟨rfl, hZ, hh⟩ := hP
 have hx := Bd.exec
 have hby := Bd.bytes
 have hml : c.maxLocals = 3 := hml0
 have hown : s.vm.findClass "jdk/internal/util/Preconditions" = some m.cls := findClass_of_methodNamed Bd.named
 have hnm := (name_of_methodNamed Bd.named Bd.method).1
 have X0 : Stand p l e ({ frames := 0, cells := 0, slots := 0, locals := 0 } : Room) s m #[(.int p0), (.int p1), fv] below meth c s₁ [] 0 0 := Stand.of_body Bd
 have e0 : s₁.heap = h0 := by rw [← hh, Bd.state]; rfl
 have N0 := Fr.nil n0
 have kp0 : Keep h0 h0 [] := Keep.refl _ _
 have G0 : ∀ t, Steps p.tables e below (s₁.setTop (mkF m 0 #[iv p0, iv p1, .val fv] [])) t → Steps p.tables e below (s₁.setTop (entryFrame m #[(.int p0), (.int p1), fv] 3)) t := fun t k => castTop (ef_rm15 m p0 p1 fv (Jvm.Free.XT.cat1 hfv)) k
 have G1 : ∀ t, Steps p.tables e below (s₁.setTop (mkF m 1 #[iv p0, iv p1, .val fv] [(.int p0)])) t → Steps p.tables e below (s₁.setTop (entryFrame m #[(.int p0), (.int p1), fv] 3)) t := by
  intro t kt
  refine G0 _ ?_
  refine XS.iloadN X0.here hx rfl (hb hby d15_0) rfl ?_
  exact kt
 have hc1_2 : ¬ (p0 < (0 : Int32)) := hlo
 have G3 : ∀ t, Steps p.tables e below (s₁.setTop (mkF m 6 #[iv p0, iv p1, .val fv] [(.int p1), (.int p0)])) t → Steps p.tables e below (s₁.setTop (entryFrame m #[(.int p0), (.int p1), fv] 3)) t := by
  intro t kt
  refine G1 _ ?_
  refine XS.ifNo X0.here hx rfl (hb hby d15_1) rfl ((if0 _ _).trans (flt hc1_2).1) ?_
  refine XS.iloadN X0.here hx rfl (hb hby d15_4) rfl ?_
  refine XS.iloadN X0.here hx rfl (hb hby d15_5) rfl ?_
  exact kt
 have hc6_4 : p0 < p1 := hhi
 obtain ⟨fs, hr, hrun, hended, hW, hsame⟩ := X0.leave (v := some (.int p0)) (fun h => by rw [Bd.returns] at h; cases h)
 refine ⟨_, _, G3 _ ?_, hrun, hended, _, _, rfl, ?_, ⟨_, rfl⟩, hW, hsame.mono (by decide) (by decide)⟩
 ·skip
  refine XS.icmpYes X0.here hx rfl (pc0 := 6) (pc' := 16) rfl (hb hby d15_6) rfl (tlt hc6_4).1 (by decide) (by decide) ?_
  refine XS.iloadN X0.here hx rfl (hb hby d15_16) rfl ?_
  exact retI X0 hx Bd.returns (hb hby d15_17) hr
 ·show Q15 Z p0 p1 fv h0 n0 _ s₁.heap _
  rw [e0]
  exact ⟨rfl, N0, rfl⟩
theorem d14_0 : decode jdk_42_method_155_code 0 = .ok (.iload_n 0, 1) := by decide +kernel
theorem d14_1 : decode jdk_42_method_155_code 1 = .ok (.iload_n 1, 1) := by decide +kernel
theorem d14_2 : decode jdk_42_method_155_code 2 = .ok (.getstatic 1053, 3) := by decide +kernel
theorem d14_5 : decode jdk_42_method_155_code 5 = .ok (.invokestatic 1059, 3) := by decide +kernel
theorem pd_0 : parseMethodDescriptor "(IILjava/util/function/BiFunction;)I" = some ⟨[.int, .int, (.object "java/util/function/BiFunction")], some .int⟩ := by decide +kernel
theorem d14_8 : decode jdk_42_method_155_code 8 = .ok (.pop, 1) := by decide +kernel
theorem d14_9 : decode jdk_42_method_155_code 9 = .ok (.return_, 1) := by decide +kernel
def Q14 (Z : State) (p0 : Int32) (p1 : Int32) (cst : Int32) (fv : Value) (h0 : Heap) (n0 : Nat) (v : Option Value) (h : Heap) (L : List Loc) : Prop := v = none ∧ Fr n0 L ∧ h = h0
theorem ef_rm14 (m : MethodId) (x0 : Int32) (x1 : Int32) : entryFrame m #[(.int x0), (.int x1)] 2 = mkF m 0 #[.val (.int x0), .val (.int x1)] [] := by first | (simp [entryFrame, mkF, argsToLocals, Value.category]; done) | rfl
theorem pnc_java_lang_String : plainName "java/lang/String" = true := by first | (simp [plainName, overriddenIn]; done) | decide +kernel
set_option maxRecDepth 65536 in
set_option maxHeartbeats 40000000 in
theorem rm14 (l : Launch) (Z : State) (a0 : Array Value) (hw : ∀ d ∈ tables_1, d.before a0 Z = true) (ws : List Jvm.Cond) (p0 : Int32) (p1 : Int32) (cst : Int32) (fv : Value) (h0 : Heap) (n0 : Nat) (Z0 : n0 ≤ h0.size) (O0 : Old Z n0 h0) (hlo : ¬ (p0 < (0 : Int32))) (hhi : p0 < p1) (SS : Sts Z cst fv) :
  MetFree l (⟨"java/lang/String", "checkIndex", "(II)V"⟩ : MethodName) (head1 (Jvm.Cond.code (⟨"java/lang/String", "checkIndex", "(II)V"⟩ : MethodName) jdk_42_method_155_code 2 none :: ws) ({ frames := 1, cells := 0, slots := 0, locals := 14 } : Room)) (fun a U => a = #[(.int p0), (.int p1)] ∧ Z.Warmed39 U.vm ∧ U.heap = h0) (fun _ _ _ _ _ => True) (fun _ U o U' => ∃ v L, o = .returned v ∧ Q14 Z p0 p1 cst fv h0 n0 v U'.heap L ∧ FrameEnd U o U' L ({ frames := 1, cells := 0, slots := 0, locals := 14 } : Room).cells ({ frames := 1, cells := 0, slots := 0, locals := 14 } : Room).slots) := by
 refine MetFree.of_bodySF (plainFor_of_name pnc_java_lang_String) hisR ?_
 intro p e s m args below meth c s₁ Bd hml0 hP hK
 obtain ⟨rfl, hZ, hh⟩ := hP
 have hx := Bd.exec
 have hby := Bd.bytes
 have hml : c.maxLocals = 2 := hml0
 have hown : s.vm.findClass "java/lang/String" = some m.cls := findClass_of_methodNamed Bd.named
 have hnm := (name_of_methodNamed Bd.named Bd.method).1
 have X0 : Stand p l e ({ frames := 1, cells := 0, slots := 0, locals := 14 } : Room) s m #[(.int p0), (.int p1)] below meth c s₁ [] 0 0 := Stand.of_body Bd
 have e0 : s₁.heap = h0 := by rw [← hh, Bd.state]; rfl
 have N0 := Fr.nil n0
 have kp0 : Keep h0 h0 [] := Keep.refl _ _
 have G0 : ∀ t, Steps p.tables e below (s₁.setTop (mkF m 0 #[iv p0, iv p1] [])) t → Steps p.tables e below (s₁.setTop (entryFrame m #[(.int p0), (.int p1)] 2)) t := fun t k => castTop (ef_rm14 m p0 p1) k
 obtain ⟨T1, X1, e1, st1⟩ := getS2 X0 hx hZ hown (host := "") (Or.inl (hq hw 65 rfl)) Via.refl e0 (SS.2.2.2.2.2.1.ext O0.2) (g := (mkF m 2 #[iv p0, iv p1] [(.int p1), (.int p0)])) rfl (hb hby d14_2)
 obtain ⟨_, _, ⟨T2, L2, k2, n2⟩, -, X2, ⟨Lc2, hQ2, l2, y2, z2⟩, st2⟩ := Jvm.LawKit.callS X1 hx (y := (⟨"jdk/internal/util/Preconditions", "checkIndex", "(IILjava/util/function/BiFunction;)I"⟩ : MethodName)) hown (mvT hZ (hq hw 67 rfl)) (mvT hZ (hq hw 68 rfl)) (mvT hZ (hq hw 66 rfl)) (mvT hZ (hq hw 69 rfl)) (by decide) (backOf (W := 0) (rm15 l Z a0 hw [] p0 p1 fv  h0 n0 Z0 hlo hhi SS.2.2.2.2.2.2) hZ (hq hw 69 rfl) (hq hw 66 rfl) (by decide) (by decide)) (g := (mkF m 5 #[iv p0, iv p1] [fv, (.int p1), (.int p0)])) rfl (by rw [hml]; rfl) (argsL := [(.int p0), (.int p1), fv]) (rest := []) (lenOf pd_0 rfl) rfl (by show 2 * 0 + _ ≤ _; exact Nat.le_of_eq rfl) (hb hby d14_5) (fun _ _ => ⟨rfl, e1, (by decide : 0 + 0 ≤ _), (by decide : 0 + 0 ≤ _)⟩)
 dsimp only [Pt.U, Pt.locs, Pt.cells, Pt.slots] at X2 l2 y2 z2 st2 hQ2
 subst l2 y2 z2
 obtain ⟨rfl, N2q, eh2⟩ := hQ2
 have N2 := Fr.app N0 N2q
 obtain ⟨fs, hr, hrun, hended, hW, hsame⟩ := X2.leave (v := none) (fun _ => rfl)
 refine ⟨_, _, G0 _ ?_, hrun, hended, _, _, rfl, ?_, ⟨_, rfl⟩, hW, hsame.mono (by decide) (by decide)⟩
 ·skip
  refine XS.iloadN X0.here hx rfl (hb hby d14_0) rfl ?_
  refine XS.iloadN X0.here hx rfl (hb hby d14_1) rfl ?_
  refine st1 _ ?_
  refine st2 _ ?_
  refine XS.pop X2.here hx rfl (hb hby d14_8) rfl rfl ?_
  exact X2.returnOut hx Bd.returns (hb hby d14_9) hr
 ·show Q14 Z p0 p1 cst fv h0 n0 _ T2.heap _
  rw [eh2]
  exact ⟨rfl, N2, rfl⟩
theorem d10_0 : decode jdk_42_method_152_code 0 = .ok (.getstatic 38, 3) := by decide +kernel
theorem d10_3 : decode jdk_42_method_152_code 3 = .ok (.ifCond .eq 10, 3) := by decide +kernel
theorem d10_6 : decode jdk_42_method_152_code 6 = .ok (.aload_n 0, 1) := by decide +kernel
theorem d10_7 : decode jdk_42_method_152_code 7 = .ok (.getfield 15, 3) := by decide +kernel
theorem d10_10 : decode jdk_42_method_152_code 10 = .ok (.goto 4, 3) := by decide +kernel
theorem d10_14 : decode jdk_42_method_152_code 14 = .ok (.ireturn, 1) := by decide +kernel
def fcoder (cd : Int32) : Int32 := nar .byte cd
def Q10 (Z : State) (r0 : Addr) (cd : Int32) (cst : Int32) (fv : Value) (h0 : Heap) (n0 : Nat) (v : Option Value) (h : Heap) (L : List Loc) : Prop := v = some (.int (fcoder cd)) ∧ Fr n0 L ∧ h = h0
theorem ef_rm10 (m : MethodId) (x0 : Addr) : entryFrame m #[(.ref x0)] 1 = mkF m 0 #[.val (.ref x0)] [] := by first | (simp [entryFrame, mkF, argsToLocals, Value.category]; done) | rfl
set_option maxRecDepth 65536 in
set_option maxHeartbeats 40000000 in
theorem rm10 (l : Launch) (Z : State) (a0 : Array Value) (hw : ∀ d ∈ tables_1, d.before a0 Z = true) (ws : List Jvm.Cond) (r0 : Addr) (cd : Int32) (cst : Int32) (fv : Value) (h0 : Heap) (n0 : Nat) (Z0 : n0 ≤ h0.size) (Fc : Fld Z h0 r0 "java/lang/String" "coder" "B" (.int cd)) (O0 : Old Z n0 h0) (SS : Sts Z cst fv) :
  MetFree l (⟨"java/lang/String", "coder", "()B"⟩ : MethodName) (head1 (Jvm.Cond.code (⟨"java/lang/String", "coder", "()B"⟩ : MethodName) jdk_42_method_152_code 1 (some .byte) :: ws) ({ frames := 0, cells := 0, slots := 0, locals := 0 } : Room)) (fun a U => a = #[(.ref r0)] ∧ Z.Warmed39 U.vm ∧ U.heap = h0) (fun _ _ _ _ _ => True) (fun _ U o U' => ∃ v L, o = .returned v ∧ Q10 Z r0 cd cst fv h0 n0 v U'.heap L ∧ FrameEnd U o U' L ({ frames := 0, cells := 0, slots := 0, locals := 0 } : Room).cells ({ frames := 0, cells := 0, slots := 0, locals := 0 } : Room).slots) := by
 refine MetFree.of_bodySF (plainFor_of_name pnc_java_lang_String) hisR ?_
 intro p e s m args below meth c s₁ Bd hml0 hP hK
 obtain ⟨rfl, hZ, hh⟩ := hP
 have hx := Bd.exec
 have hby := Bd.bytes
 have hml : c.maxLocals = 1 := hml0
 have hown : s.vm.findClass "java/lang/String" = some m.cls := findClass_of_methodNamed Bd.named
 have hnm := (name_of_methodNamed Bd.named Bd.method).1
 have X0 : Stand p l e ({ frames := 0, cells := 0, slots := 0, locals := 0 } : Room) s m #[(.ref r0)] below meth c s₁ [] 0 0 := Stand.of_body Bd
 have e0 : s₁.heap = h0 := by rw [← hh, Bd.state]; rfl
 have N0 := Fr.nil n0
 have kp0 : Keep h0 h0 [] := Keep.refl _ _
 have G0 : ∀ t, Steps p.tables e below (s₁.setTop (mkF m 0 #[rv r0] [])) t → Steps p.tables e below (s₁.setTop (entryFrame m #[(.ref r0)] 1)) t := fun t k => castTop (ef_rm10 m r0) k
 obtain ⟨T1, X1, e1, st1⟩ := getS2 X0 hx hZ hown (host := "") (Or.inl (hq hw 14 rfl)) Via.refl e0 (SS.1.ext O0.2) (g := (mkF m 0 #[rv r0] [])) rfl (hb hby d10_0)
 have G2 : ∀ t, Steps p.tables e below (T1.setTop (mkF m 3 #[rv r0] [(.int cst)])) t → Steps p.tables e below (s₁.setTop (entryFrame m #[(.ref r0)] 1)) t := by
  intro t kt
  refine G0 _ ?_
  refine st1 _ ?_
  exact kt
 have hc3_3 : ¬ (cst = (0 : Int32)) := SS.2.1
 obtain ⟨T4, X4, e4, st4⟩ := getF X1 hx hZ hown (host := "") (Or.inl (hq hw 26 rfl)) Via.refl e1 Fc (g := (mkF m 7 #[rv r0] [(.ref r0)])) rfl rfl (hb hby d10_7)
 obtain ⟨fs, hr, hrun, hended, hW, hsame⟩ := X4.leave (v := some (.int (nar .byte cd))) (fun h => by rw [Bd.returns] at h; cases h)
 refine ⟨_, _, G2 _ ?_, hrun, hended, _, _, rfl, ?_, ⟨_, rfl⟩, hW, hsame.mono (by decide) (by decide)⟩
 ·skip
  refine XS.ifNo X1.here hx rfl (hb hby d10_3) rfl ((if0 _ _).trans (feq hc3_3).1) ?_
  refine XS.aloadN X1.here hx rfl (hb hby d10_6) rfl rfl ?_
  refine st4 _ ?_
  refine XS.goto X4.here hx rfl (pc0 := 10) (pc' := 14) rfl (hb hby d10_10) (by decide) (by decide) ?_
  exact retN X4 hx (t := .byte) Bd.returns (by simp) (hb hby d10_14) hr
 ·show Q10 Z r0 cd cst fv h0 n0 _ T4.heap _
  rw [e4]
  exact ⟨by rw [fcoder], N0, rfl⟩
theorem d12_0 : decode jdk_42_method_154_code 0 = .ok (.getstatic 38, 3) := by decide +kernel
theorem d12_3 : decode jdk_42_method_154_code 3 = .ok (.ifCond .eq 14, 3) := by decide +kernel
theorem d12_6 : decode jdk_42_method_154_code 6 = .ok (.aload_n 0, 1) := by decide +kernel
theorem d12_7 : decode jdk_42_method_154_code 7 = .ok (.getfield 15, 3) := by decide +kernel
theorem d12_10 : decode jdk_42_method_154_code 10 = .ok (.ifCond .ne 7, 3) := by decide +kernel
theorem d12_13 : decode jdk_42_method_154_code 13 = .ok (.iconst 1, 1) := by decide +kernel
theorem d12_14 : decode jdk_42_method_154_code 14 = .ok (.goto 4, 3) := by decide +kernel
theorem d12_18 : decode jdk_42_method_154_code 18 = .ok (.ireturn, 1) := by decide +kernel
theorem d12_17 : decode jdk_42_method_154_code 17 = .ok (.iconst 0, 1) := by decide +kernel
def fisLatin1 (cd : Int32) : Int32 := if cd = (0 : Int32) then ((1 : Int32)) else ((0 : Int32))
def Q12 (Z : State) (r0 : Addr) (cd : Int32) (cst : Int32) (fv : Value) (h0 : Heap) (n0 : Nat) (v : Option Value) (h : Heap) (L : List Loc) : Prop := v = some (.int (fisLatin1 cd)) ∧ Fr n0 L ∧ h = h0
theorem ef_rm12 (m : MethodId) (x0 : Addr) : entryFrame m #[(.ref x0)] 1 = mkF m 0 #[.val (.ref x0)] [] := by first | (simp [entryFrame, mkF, argsToLocals, Value.category]; done) | rfl
set_option maxRecDepth 65536 in
set_option maxHeartbeats 40000000 in
theorem rm12 (l : Launch) (Z : State) (a0 : Array Value) (hw : ∀ d ∈ tables_1, d.before a0 Z = true) (ws : List Jvm.Cond) (r0 : Addr) (cd : Int32) (cst : Int32) (fv : Value) (h0 : Heap) (n0 : Nat) (Z0 : n0 ≤ h0.size) (Fc : Fld Z h0 r0 "java/lang/String" "coder" "B" (.int cd)) (O0 : Old Z n0 h0) (SS : Sts Z cst fv) :
  MetFree l (⟨"java/lang/String", "isLatin1", "()Z"⟩ : MethodName) (head1 (Jvm.Cond.code (⟨"java/lang/String", "isLatin1", "()Z"⟩ : MethodName) jdk_42_method_154_code 1 (some .boolean) :: ws) ({ frames := 0, cells := 0, slots := 0, locals := 0 } : Room)) (fun a U => a = #[(.ref r0)] ∧ Z.Warmed39 U.vm ∧ U.heap = h0) (fun _ _ _ _ _ => True) (fun _ U o U' => ∃ v L, o = .returned v ∧ Q12 Z r0 cd cst fv h0 n0 v U'.heap L ∧ FrameEnd U o U' L ({ frames := 0, cells := 0, slots := 0, locals := 0 } : Room).cells ({ frames := 0, cells := 0, slots := 0, locals := 0 } : Room).slots) := by
 refine MetFree.of_bodySF (plainFor_of_name pnc_java_lang_String) hisR ?_
 intro p e s m args below meth c s₁ Bd hml0 hP hK
 obtain ⟨rfl, hZ, hh⟩ := hP
 have hx := Bd.exec
 have hby := Bd.bytes
 have hml : c.maxLocals = 1 := hml0
 have hown : s.vm.findClass "java/lang/String" = some m.cls := findClass_of_methodNamed Bd.named
 have hnm := (name_of_methodNamed Bd.named Bd.method).1
 have X0 : Stand p l e ({ frames := 0, cells := 0, slots := 0, locals := 0 } : Room) s m #[(.ref r0)] below meth c s₁ [] 0 0 := Stand.of_body Bd
 have e0 : s₁.heap = h0 := by rw [← hh, Bd.state]; rfl
 have N0 := Fr.nil n0
 have kp0 : Keep h0 h0 [] := Keep.refl _ _
 have G0 : ∀ t, Steps p.tables e below (s₁.setTop (mkF m 0 #[rv r0] [])) t → Steps p.tables e below (s₁.setTop (entryFrame m #[(.ref r0)] 1)) t := fun t k => castTop (ef_rm12 m r0) k
 obtain ⟨T1, X1, e1, st1⟩ := getS2 X0 hx hZ hown (host := "") (Or.inl (hq hw 14 rfl)) Via.refl e0 (SS.1.ext O0.2) (g := (mkF m 0 #[rv r0] [])) rfl (hb hby d12_0)
 have G2 : ∀ t, Steps p.tables e below (T1.setTop (mkF m 3 #[rv r0] [(.int cst)])) t → Steps p.tables e below (s₁.setTop (entryFrame m #[(.ref r0)] 1)) t := by
  intro t kt
  refine G0 _ ?_
  refine st1 _ ?_
  exact kt
 have hc3_3 : ¬ (cst = (0 : Int32)) := SS.2.1
 obtain ⟨T4, X4, e4, st4⟩ := getF X1 hx hZ hown (host := "") (Or.inl (hq hw 26 rfl)) Via.refl e1 Fc (g := (mkF m 7 #[rv r0] [(.ref r0)])) rfl rfl (hb hby d12_7)
 have G5 : ∀ t, Steps p.tables e below (T4.setTop (mkF m 10 #[rv r0] [(.int cd)])) t → Steps p.tables e below (s₁.setTop (entryFrame m #[(.ref r0)] 1)) t := by
  intro t kt
  refine G2 _ ?_
  refine XS.ifNo X1.here hx rfl (hb hby d12_3) rfl ((if0 _ _).trans (feq hc3_3).1) ?_
  refine XS.aloadN X1.here hx rfl (hb hby d12_6) rfl rfl ?_
  refine st4 _ ?_
  exact kt
 by_cases hc10_6 : cd = (0 : Int32)
 ·skip
  obtain ⟨fs, hr, hrun, hended, hW, hsame⟩ := X4.leave (v := some (.int (1 : Int32))) (fun h => by rw [Bd.returns] at h; cases h)
  refine ⟨_, _, G5 _ ?_, hrun, hended, _, _, rfl, ?_, ⟨_, rfl⟩, hW, hsame.mono (by decide) (by decide)⟩
  ·skip
   refine XS.ifNo X4.here hx rfl (hb hby d12_10) rfl ((if0 _ _).trans (teq hc10_6).2) ?_
   refine XS.iconst X4.here hx rfl (hb hby d12_13) ?_
   refine XS.goto X4.here hx rfl (pc0 := 14) (pc' := 18) rfl (hb hby d12_14) (by decide) (by decide) ?_
   exact retN X4 hx (t := .boolean) Bd.returns (by simp) (hb hby d12_18) hr
  ·show Q12 Z r0 cd cst fv h0 n0 _ T4.heap _
   rw [e4]
   exact ⟨by rw [fisLatin1, if_pos hc10_6], N0, rfl⟩
 ·skip
  obtain ⟨fs, hr, hrun, hended, hW, hsame⟩ := X4.leave (v := some (.int (0 : Int32))) (fun h => by rw [Bd.returns] at h; cases h)
  refine ⟨_, _, G5 _ ?_, hrun, hended, _, _, rfl, ?_, ⟨_, rfl⟩, hW, hsame.mono (by decide) (by decide)⟩
  ·skip
   refine XS.ifYes X4.here hx rfl (pc0 := 10) (pc' := 17) rfl (hb hby d12_10) rfl ((if0 _ _).trans (feq hc10_6).2) (by decide) (by decide) ?_
   refine XS.iconst X4.here hx rfl (hb hby d12_17) ?_
   exact retN X4 hx (t := .boolean) Bd.returns (by simp) (hb hby d12_18) hr
  ·show Q12 Z r0 cd cst fv h0 n0 _ T4.heap _
   rw [e4]
   exact ⟨by rw [fisLatin1, if_neg hc10_6], N0, rfl⟩
theorem d9_0 : decode jdk_42_method_54_code 0 = .ok (.aload_n 0, 1) := by decide +kernel
theorem d9_1 : decode jdk_42_method_54_code 1 = .ok (.getfield 9, 3) := by decide +kernel
theorem d9_4 : decode jdk_42_method_54_code 4 = .ok (.arraylength, 1) := by decide +kernel
theorem d9_5 : decode jdk_42_method_54_code 5 = .ok (.aload_n 0, 1) := by decide +kernel
theorem d9_6 : decode jdk_42_method_54_code 6 = .ok (.invokevirtual 335, 3) := by decide +kernel
theorem pd_1 : parseMethodDescriptor "()B" = some ⟨[], some .byte⟩ := by decide +kernel
theorem d9_9 : decode jdk_42_method_54_code 9 = .ok (.ishr, 1) := by decide +kernel
theorem d9_10 : decode jdk_42_method_54_code 10 = .ok (.ireturn, 1) := by decide +kernel
def Q9 (Z : State) (r0 : Addr) (cd : Int32) (ta : Addr) (kk : ClassId) (nn : Int32) (vs : List Value) (r : Int32) (cst : Int32) (fv : Value) (h0 : Heap) (n0 : Nat) (v : Option Value) (h : Heap) (L : List Loc) : Prop := v = some (.int r) ∧ Fr n0 L ∧ h = h0
theorem ef_rm9 (m : MethodId) (x0 : Addr) : entryFrame m #[(.ref x0)] 1 = mkF m 0 #[.val (.ref x0)] [] := by first | (simp [entryFrame, mkF, argsToLocals, Value.category]; done) | rfl
set_option maxRecDepth 65536 in
set_option maxHeartbeats 40000000 in
theorem rm9 (l : Launch) (Z : State) (a0 : Array Value) (hw : ∀ d ∈ tables_1, d.before a0 Z = true) (ws : List Jvm.Cond) (r0 : Addr) (cd : Int32) (ta : Addr) (kk : ClassId) (nn : Int32) (vs : List Value) (r : Int32) (cst : Int32) (fv : Value) (h0 : Heap) (n0 : Nat) (Z0 : n0 ≤ h0.size) (E0 : Exa Z h0 r0 "java/lang/String") (Fc : Fld Z h0 r0 "java/lang/String" "coder" "B" (.int cd)) (Fv : Fld Z h0 r0 "java/lang/String" "value" "[B" (.ref ta)) (V0 : Arv Z h0 ta kk .byte nn vs (.int (0 : Int32))) (O0 : Old Z n0 h0) (hres : (nn >>> ((fcoder cd) &&& 31)) = r) (SS : Sts Z cst fv) :
  MetFree l (⟨"java/lang/String", "length", "()I"⟩ : MethodName) (head1 (Jvm.Cond.code (⟨"java/lang/String", "length", "()I"⟩ : MethodName) jdk_42_method_54_code 1 (some .int) :: ws) ({ frames := 1, cells := 0, slots := 0, locals := 13 } : Room)) (fun a U => a = #[(.ref r0)] ∧ Z.Warmed39 U.vm ∧ U.heap = h0) (fun _ _ _ _ _ => True) (fun _ U o U' => ∃ v L, o = .returned v ∧ Q9 Z r0 cd ta kk nn vs r cst fv h0 n0 v U'.heap L ∧ FrameEnd U o U' L ({ frames := 1, cells := 0, slots := 0, locals := 13 } : Room).cells ({ frames := 1, cells := 0, slots := 0, locals := 13 } : Room).slots) := by
 refine MetFree.of_bodySF (plainFor_of_name pnc_java_lang_String) hisR ?_
 intro p e s m args below meth c s₁ Bd hml0 hP hK
 obtain ⟨rfl, hZ, hh⟩ := hP
 have hx := Bd.exec
 have hby := Bd.bytes
 have hml : c.maxLocals = 1 := hml0
 have hown : s.vm.findClass "java/lang/String" = some m.cls := findClass_of_methodNamed Bd.named
 have hnm := (name_of_methodNamed Bd.named Bd.method).1
 have X0 : Stand p l e ({ frames := 1, cells := 0, slots := 0, locals := 13 } : Room) s m #[(.ref r0)] below meth c s₁ [] 0 0 := Stand.of_body Bd
 have e0 : s₁.heap = h0 := by rw [← hh, Bd.state]; rfl
 have N0 := Fr.nil n0
 have kp0 : Keep h0 h0 [] := Keep.refl _ _
 have G0 : ∀ t, Steps p.tables e below (s₁.setTop (mkF m 0 #[rv r0] [])) t → Steps p.tables e below (s₁.setTop (entryFrame m #[(.ref r0)] 1)) t := fun t k => castTop (ef_rm9 m r0) k
 obtain ⟨T1, X1, e1, st1⟩ := getF X0 hx hZ hown (host := "") (Or.inl (hq hw 28 rfl)) Via.refl e0 Fv (g := (mkF m 1 #[rv r0] [(.ref r0)])) rfl rfl (hb hby d9_1)
 obtain ⟨cl2, Ar2, q2, S2, M2, H2, G2⟩ := id V0
 obtain ⟨cq3, kq3, q3a, q3b, q3c⟩ := isOf hZ e1 E0
 obtain ⟨_, _, ⟨T3, L3, k3, n3⟩, -, X3, ⟨Lc3, hQ3, l3, y3, z3⟩, st3⟩ := X1.virtualBack hx (y := (⟨"java/lang/String", "coder", "()B"⟩ : MethodName)) (z := (⟨"java/lang/String", "coder", "()B"⟩ : MethodName)) hown (mvT hZ (hq hw 43 rfl)) (mvT hZ (hq hw 44 rfl)) (notFace_of_selects (args := #[]) (mvT hZ (hq hw 46 rfl))) (mvT hZ (hq hw 46 rfl)) (mvT hZ (hq hw 45 rfl)) (by decide) (backOf (W := 1) (rm10 l Z a0 hw [] r0 cd cst fv h0 n0 Z0 Fc O0  SS) hZ (hq hw 47 rfl) (hq hw 3 rfl) (by decide) (by decide)) q3a q3c (g := (mkF m 6 #[rv r0] [(.ref r0), (.int nn)])) rfl (by rw [hml]; rfl) (Steps.refl _) (argsL := []) (rest := [(.int nn)]) (lenOf pd_1 rfl) rfl (by show 2 * 0 + _ ≤ _; exact Nat.le_of_eq rfl) (hb hby d9_6) (fun _ _ => ⟨rfl, e1, (by decide : 0 + 0 ≤ _), (by decide : 0 + 0 ≤ _)⟩)
 dsimp only [Pt.U, Pt.locs, Pt.cells, Pt.slots] at X3 l3 y3 z3 st3 hQ3
 subst l3 y3 z3
 obtain ⟨rfl, N3q, eh3⟩ := hQ3
 have N3 := Fr.app N0 N3q
 obtain ⟨fs, hr, hrun, hended, hW, hsame⟩ := X3.leave (v := some (.int (nn >>> ((fcoder cd) &&& 31)))) (fun h => by rw [Bd.returns] at h; cases h)
 refine ⟨_, _, G0 _ ?_, hrun, hended, _, _, rfl, ?_, ⟨_, rfl⟩, hW, hsame.mono (by decide) (by decide)⟩
 ·skip
  refine XS.aloadN X0.here hx rfl (hb hby d9_0) rfl rfl ?_
  refine st1 _ ?_
  refine X1.arraylength hx (by rw [e1]; exact Ar2.1) (State.isArrayOf_alike hZ.alike Ar2.2.1) (g := (mkF m 4 #[rv r0] [(.ref ta)])) rfl rfl (hb hby d9_4) _ ?_
  rw [len_of S2 M2]
  refine XS.aloadN X1.here hx rfl (hb hby d9_5) rfl rfl ?_
  refine st3.trans ?_
  refine XS.ishr X3.here hx rfl (hb hby d9_9) rfl ?_
  exact retI X3 hx Bd.returns (hb hby d9_10) hr
 ·show Q9 Z r0 cd ta kk nn vs r cst fv h0 n0 _ T3.heap _
  rw [eh3]
  exact ⟨by rw [hres], N3, rfl⟩
theorem d23_0 : decode jdk_52_method_6_code 0 = .ok (.aload_n 0, 1) := by decide +kernel
theorem d23_1 : decode jdk_52_method_6_code 1 = .ok (.arraylength, 1) := by decide +kernel
theorem d23_2 : decode jdk_52_method_6_code 2 = .ok (.iconst 1, 1) := by decide +kernel
theorem d23_3 : decode jdk_52_method_6_code 3 = .ok (.ishr, 1) := by decide +kernel
theorem d23_4 : decode jdk_52_method_6_code 4 = .ok (.ireturn, 1) := by decide +kernel
def Q23 (Z : State) (r0 : Addr) (kk : ClassId) (nn : Int32) (vs : List Value) (cst : Int32) (fv : Value) (h0 : Heap) (n0 : Nat) (v : Option Value) (h : Heap) (L : List Loc) : Prop := v = some (.int (nn >>> ((1 : Int32) &&& 31))) ∧ Fr n0 L ∧ h = h0
theorem ef_rm23 (m : MethodId) (x0 : Addr) : entryFrame m #[(.ref x0)] 1 = mkF m 0 #[.val (.ref x0)] [] := by first | (simp [entryFrame, mkF, argsToLocals, Value.category]; done) | rfl
theorem pnc_java_lang_StringUTF16 : plainName "java/lang/StringUTF16" = true := by first | (simp [plainName, overriddenIn]; done) | decide +kernel
set_option maxRecDepth 65536 in
set_option maxHeartbeats 40000000 in
theorem rm23 (l : Launch) (Z : State) (a0 : Array Value) (hw : ∀ d ∈ tables_1, d.before a0 Z = true) (ws : List Jvm.Cond) (r0 : Addr) (kk : ClassId) (nn : Int32) (vs : List Value) (cst : Int32) (fv : Value) (h0 : Heap) (n0 : Nat) (Z0 : n0 ≤ h0.size) (V0 : Arv Z h0 r0 kk .byte nn vs (.int (0 : Int32))) (O0 : Old Z n0 h0) (SS : Sts Z cst fv) :
  MetFree l (⟨"java/lang/StringUTF16", "length", "([B)I"⟩ : MethodName) (head1 (Jvm.Cond.code (⟨"java/lang/StringUTF16", "length", "([B)I"⟩ : MethodName) jdk_52_method_6_code 1 (some .int) :: ws) ({ frames := 0, cells := 0, slots := 0, locals := 0 } : Room)) (fun a U => a = #[(.ref r0)] ∧ Z.Warmed39 U.vm ∧ U.heap = h0) (fun _ _ _ _ _ => True) (fun _ U o U' => ∃ v L, o = .returned v ∧ Q23 Z r0 kk nn vs cst fv h0 n0 v U'.heap L ∧ FrameEnd U o U' L ({ frames := 0, cells := 0, slots := 0, locals := 0 } : Room).cells ({ frames := 0, cells := 0, slots := 0, locals := 0 } : Room).slots) := by
 refine MetFree.of_bodySF (plainFor_of_name pnc_java_lang_StringUTF16) hisR ?_
 intro p e s m args below meth c s₁ Bd hml0 hP hK
 obtain ⟨rfl, hZ, hh⟩ := hP
 have hx := Bd.exec
 have hby := Bd.bytes
 have hml : c.maxLocals = 1 := hml0
 have hown : s.vm.findClass "java/lang/StringUTF16" = some m.cls := findClass_of_methodNamed Bd.named
 have hnm := (name_of_methodNamed Bd.named Bd.method).1
 have X0 : Stand p l e ({ frames := 0, cells := 0, slots := 0, locals := 0 } : Room) s m #[(.ref r0)] below meth c s₁ [] 0 0 := Stand.of_body Bd
 have e0 : s₁.heap = h0 := by rw [← hh, Bd.state]; rfl
 have N0 := Fr.nil n0
 have kp0 : Keep h0 h0 [] := Keep.refl _ _
 have G0 : ∀ t, Steps p.tables e below (s₁.setTop (mkF m 0 #[rv r0] [])) t → Steps p.tables e below (s₁.setTop (entryFrame m #[(.ref r0)] 1)) t := fun t k => castTop (ef_rm23 m r0) k
 obtain ⟨cl1, Ar1, q1, S1, M1, H1, G1⟩ := id V0
 obtain ⟨fs, hr, hrun, hended, hW, hsame⟩ := X0.leave (v := some (.int (nn >>> ((1 : Int32) &&& 31)))) (fun h => by rw [Bd.returns] at h; cases h)
 refine ⟨_, _, G0 _ ?_, hrun, hended, _, _, rfl, ?_, ⟨_, rfl⟩, hW, hsame.mono (by decide) (by decide)⟩
 ·skip
  refine XS.aloadN X0.here hx rfl (hb hby d23_0) rfl rfl ?_
  refine X0.arraylength hx (by rw [e0]; exact Ar1.1) (State.isArrayOf_alike hZ.alike Ar1.2.1) (g := (mkF m 1 #[rv r0] [(.ref r0)])) rfl rfl (hb hby d23_1) _ ?_
  rw [len_of S1 M1]
  refine XS.iconst X0.here hx rfl (hb hby d23_2) ?_
  refine XS.ishr X0.here hx rfl (hb hby d23_3) rfl ?_
  exact retI X0 hx Bd.returns (hb hby d23_4) hr
 ·show Q23 Z r0 kk nn vs cst fv h0 n0 _ s₁.heap _
  rw [e0]
  exact ⟨rfl, N0, rfl⟩
theorem d20_0 : decode jdk_52_method_5_code 0 = .ok (.getstatic 44, 3) := by decide +kernel
theorem d20_3 : decode jdk_52_method_5_code 3 = .ok (.ifCond .ne 25, 3) := by decide +kernel
theorem d20_28 : decode jdk_52_method_5_code 28 = .ok (.iload_n 1, 1) := by decide +kernel
theorem d20_29 : decode jdk_52_method_5_code 29 = .ok (.iconst 1, 1) := by decide +kernel
theorem d20_30 : decode jdk_52_method_5_code 30 = .ok (.ishl, 1) := by decide +kernel
theorem d20_31 : decode jdk_52_method_5_code 31 = .ok (.istore_n 1, 1) := by decide +kernel
theorem d20_32 : decode jdk_52_method_5_code 32 = .ok (.aload_n 0, 1) := by decide +kernel
theorem d20_33 : decode jdk_52_method_5_code 33 = .ok (.iload_n 1, 1) := by decide +kernel
theorem d20_34 : decode jdk_52_method_5_code 34 = .ok (.iinc 1 1, 3) := by decide +kernel
theorem d20_37 : decode jdk_52_method_5_code 37 = .ok (.baload, 1) := by decide +kernel
theorem d20_38 : decode jdk_52_method_5_code 38 = .ok (.sipush 255, 3) := by decide +kernel
theorem d20_41 : decode jdk_52_method_5_code 41 = .ok (.iand, 1) := by decide +kernel
theorem d20_42 : decode jdk_52_method_5_code 42 = .ok (.getstatic 59, 3) := by decide +kernel
theorem d20_45 : decode jdk_52_method_5_code 45 = .ok (.ishl, 1) := by decide +kernel
theorem d20_46 : decode jdk_52_method_5_code 46 = .ok (.aload_n 0, 1) := by decide +kernel
theorem d20_47 : decode jdk_52_method_5_code 47 = .ok (.iload_n 1, 1) := by decide +kernel
theorem d20_48 : decode jdk_52_method_5_code 48 = .ok (.baload, 1) := by decide +kernel
theorem d20_49 : decode jdk_52_method_5_code 49 = .ok (.sipush 255, 3) := by decide +kernel
theorem d20_52 : decode jdk_52_method_5_code 52 = .ok (.iand, 1) := by decide +kernel
theorem d20_53 : decode jdk_52_method_5_code 53 = .ok (.getstatic 63, 3) := by decide +kernel
theorem d20_56 : decode jdk_52_method_5_code 56 = .ok (.ishl, 1) := by decide +kernel
theorem d20_57 : decode jdk_52_method_5_code 57 = .ok (.ior, 1) := by decide +kernel
theorem d20_58 : decode jdk_52_method_5_code 58 = .ok (.i2c, 1) := by decide +kernel
theorem d20_59 : decode jdk_52_method_5_code 59 = .ok (.ireturn, 1) := by decide +kernel
def fget (x : Int32) (y : Int32) : Int32 := nar .char ((((x &&& (255 : Int32)) <<< ((0 : Int32) &&& 31)) ||| ((y &&& (255 : Int32)) <<< ((8 : Int32) &&& 31))).toUInt32.toUInt16.toUInt32.toInt32)
def Q20 (Z : State) (r0 : Addr) (p1 : Int32) (kk : ClassId) (nn : Int32) (vs : List Value) (x y : Int32) (cst : Int32) (fv : Value) (h0 : Heap) (n0 : Nat) (v : Option Value) (h : Heap) (L : List Loc) : Prop := v = some (.int (fget x y)) ∧ Fr n0 L ∧ h = h0
theorem ef_rm20 (m : MethodId) (x0 : Addr) (x1 : Int32) : entryFrame m #[(.ref x0), (.int x1)] 2 = mkF m 0 #[.val (.ref x0), .val (.int x1)] [] := by first | (simp [entryFrame, mkF, argsToLocals, Value.category]; done) | rfl
set_option maxRecDepth 65536 in
set_option maxHeartbeats 40000000 in
theorem rm20 (l : Launch) (Z : State) (a0 : Array Value) (hw : ∀ d ∈ tables_1, d.before a0 Z = true) (ws : List Jvm.Cond) (r0 : Addr) (p1 : Int32) (kk : ClassId) (nn : Int32) (vs : List Value) (x y : Int32) (cst : Int32) (fv : Value) (h0 : Heap) (n0 : Nat) (Z0 : n0 ≤ h0.size) (V0 : Arv Z h0 r0 kk .byte nn vs (.int (0 : Int32))) (O0 : Old Z n0 h0) (i0 : ¬ (p1 <<< ((1 : Int32) &&& 31)) < 0 ∧ (p1 <<< ((1 : Int32) &&& 31)) < nn) (i1 : ¬ ((p1 <<< ((1 : Int32) &&& 31)) + (1 : Int32)) < 0 ∧ ((p1 <<< ((1 : Int32) &&& 31)) + (1 : Int32)) < nn) (g0 : vs.getD ((p1 <<< ((1 : Int32) &&& 31))).toNatClampNeg (.int (0 : Int32)) = .int x) (g1 : vs.getD (((p1 <<< ((1 : Int32) &&& 31)) + (1 : Int32))).toNatClampNeg (.int (0 : Int32)) = .int y) (SS : Sts Z cst fv) :
  MetFree l (⟨"java/lang/StringUTF16", "getChar", "([BI)C"⟩ : MethodName) (head1 (Jvm.Cond.code (⟨"java/lang/StringUTF16", "getChar", "([BI)C"⟩ : MethodName) jdk_52_method_5_code 2 (some .char) :: ws) ({ frames := 0, cells := 0, slots := 0, locals := 0 } : Room)) (fun a U => a = #[(.ref r0), (.int p1)] ∧ Z.Warmed39 U.vm ∧ U.heap = h0) (fun _ _ _ _ _ => True) (fun _ U o U' => ∃ v L, o = .returned v ∧ Q20 Z r0 p1 kk nn vs x y cst fv h0 n0 v U'.heap L ∧ FrameEnd U o U' L ({ frames := 0, cells := 0, slots := 0, locals := 0 } : Room).cells ({ frames := 0, cells := 0, slots := 0, locals := 0 } : Room).slots) := by
 refine MetFree.of_bodySF (plainFor_of_name pnc_java_lang_StringUTF16) hisR ?_
 intro p e s m args below meth c s₁ Bd hml0 hP hK
 obtain ⟨rfl, hZ, hh⟩ := hP
 have hx := Bd.exec
 have hby := Bd.bytes
 have hml : c.maxLocals = 2 := hml0
 have hown : s.vm.findClass "java/lang/StringUTF16" = some m.cls := findClass_of_methodNamed Bd.named
 have hnm := (name_of_methodNamed Bd.named Bd.method).1
 have X0 : Stand p l e ({ frames := 0, cells := 0, slots := 0, locals := 0 } : Room) s m #[(.ref r0), (.int p1)] below meth c s₁ [] 0 0 := Stand.of_body Bd
 have e0 : s₁.heap = h0 := by rw [← hh, Bd.state]; rfl
 have N0 := Fr.nil n0
 have kp0 : Keep h0 h0 [] := Keep.refl _ _
 have G0 : ∀ t, Steps p.tables e below (s₁.setTop (mkF m 0 #[rv r0, iv p1] [])) t → Steps p.tables e below (s₁.setTop (entryFrame m #[(.ref r0), (.int p1)] 2)) t := fun t k => castTop (ef_rm20 m r0 p1) k
 obtain ⟨cl, Ar, qk, Sz, Mz, Hz, Gz⟩ := id V0
 have hin0 : ¬ ((p1 <<< ((1 : Int32) &&& 31)) < 0 ∨ cl.slots.size ≤ ((p1 <<< ((1 : Int32) &&& 31))).toNatClampNeg) := inb_of Sz i0
 have hin1 : ¬ (((p1 <<< ((1 : Int32) &&& 31)) + (1 : Int32)) < 0 ∨ cl.slots.size ≤ (((p1 <<< ((1 : Int32) &&& 31)) + (1 : Int32))).toNatClampNeg) := inb_of Sz i1
 have hat0 : cl.slots[((p1 <<< ((1 : Int32) &&& 31))).toNatClampNeg]? = some (.int x) := Hz.at hin0 g0
 have hat1 : cl.slots[(((p1 <<< ((1 : Int32) &&& 31)) + (1 : Int32))).toNatClampNeg]? = some (.int y) := Hz.at hin1 g1
 obtain ⟨T1, X1, e1, st1⟩ := getS2 X0 hx hZ hown (host := "") (Or.inl (hq hw 86 rfl)) Via.refl e0 (SS.2.2.1.ext O0.2) (g := (mkF m 0 #[rv r0, iv p1] [])) rfl (hb hby d20_0)
 have G2 : ∀ t, Steps p.tables e below (T1.setTop (mkF m 3 #[rv r0, iv p1] [(.int (1 : Int32))])) t → Steps p.tables e below (s₁.setTop (entryFrame m #[(.ref r0), (.int p1)] 2)) t := by
  intro t kt
  refine G0 _ ?_
  refine st1 _ ?_
  exact kt
 obtain ⟨T3, X3, e3, st3⟩ := getS2 X1 hx hZ hown (host := "") (Or.inl (hq hw 87 rfl)) Via.refl e1 (SS.2.2.2.1.ext O0.2) (g := (mkF m 42 #[rv r0, iv ((p1 <<< ((1 : Int32) &&& 31)) + (1 : Int32))] [(.int (x &&& (255 : Int32)))])) rfl (hb hby d20_42)
 obtain ⟨T4, X4, e4, st4⟩ := getS2 X3 hx hZ hown (host := "") (Or.inl (hq hw 88 rfl)) Via.refl e3 (SS.2.2.2.2.1.ext O0.2) (g := (mkF m 53 #[rv r0, iv ((p1 <<< ((1 : Int32) &&& 31)) + (1 : Int32))] [(.int (y &&& (255 : Int32))), (.int ((x &&& (255 : Int32)) <<< ((0 : Int32) &&& 31)))])) rfl (hb hby d20_53)
 obtain ⟨fs, hr, hrun, hended, hW, hsame⟩ := X4.leave (v := some (.int (nar .char ((((x &&& (255 : Int32)) <<< ((0 : Int32) &&& 31)) ||| ((y &&& (255 : Int32)) <<< ((8 : Int32) &&& 31))).toUInt32.toUInt16.toUInt32.toInt32)))) (fun h => by rw [Bd.returns] at h; cases h)
 refine ⟨_, _, G2 _ ?_, hrun, hended, _, _, rfl, ?_, ⟨_, rfl⟩, hW, hsame.mono (by decide) (by decide)⟩
 ·skip
  refine XS.ifYes X1.here hx rfl (pc0 := 3) (pc' := 28) rfl (hb hby d20_3) rfl ((if0 _ _).trans (feq (by decide)).2) (by decide) (by decide) ?_
  refine XS.iloadN X1.here hx rfl (hb hby d20_28) rfl ?_
  refine XS.iconst X1.here hx rfl (hb hby d20_29) ?_
  refine XS.ishl X1.here hx rfl (hb hby d20_30) rfl ?_
  refine XS.istoreN X1.here hx rfl (hb hby d20_31) rfl (l' := #[rv r0, iv (p1 <<< ((1 : Int32) &&& 31))]) rfl ?_
  refine XS.aloadN X1.here hx rfl (hb hby d20_32) rfl rfl ?_
  refine XS.iloadN X1.here hx rfl (hb hby d20_33) rfl ?_
  refine XS.iinc X1.here hx rfl (hb hby d20_34) rfl (l' := #[rv r0, iv ((p1 <<< ((1 : Int32) &&& 31)) + (1 : Int32))]) rfl ?_
  refine X1.baloadBytes hx (j := (p1 <<< ((1 : Int32) &&& 31))) (v := (.int x)) (by rw [e1]; exact Ar.1) (State.isArrayOf_alike hZ.alike Ar.2.1) Ar.2.2 hin0 hat0 (g := (mkF m 37 #[rv r0, iv ((p1 <<< ((1 : Int32) &&& 31)) + (1 : Int32))] [(.int (p1 <<< ((1 : Int32) &&& 31))), (.ref r0)])) rfl rfl (hb hby d20_37) _ ?_
  refine XS.sipush X1.here hx rfl (hb hby d20_38) ?_
  refine XS.iand X1.here hx rfl (hb hby d20_41) rfl ?_
  refine st3 _ ?_
  refine XS.ishl X3.here hx rfl (hb hby d20_45) rfl ?_
  refine XS.aloadN X3.here hx rfl (hb hby d20_46) rfl rfl ?_
  refine XS.iloadN X3.here hx rfl (hb hby d20_47) rfl ?_
  refine X3.baloadBytes hx (j := ((p1 <<< ((1 : Int32) &&& 31)) + (1 : Int32))) (v := (.int y)) (by rw [e3]; exact Ar.1) (State.isArrayOf_alike hZ.alike Ar.2.1) Ar.2.2 hin1 hat1 (g := (mkF m 48 #[rv r0, iv ((p1 <<< ((1 : Int32) &&& 31)) + (1 : Int32))] [(.int ((p1 <<< ((1 : Int32) &&& 31)) + (1 : Int32))), (.ref r0), (.int ((x &&& (255 : Int32)) <<< ((0 : Int32) &&& 31)))])) rfl rfl (hb hby d20_48) _ ?_
  refine XS.sipush X3.here hx rfl (hb hby d20_49) ?_
  refine XS.iand X3.here hx rfl (hb hby d20_52) rfl ?_
  refine st4 _ ?_
  show Steps p.tables e below (T4.setTop (mkF m 56 #[rv r0, iv ((p1 <<< ((1 : Int32) &&& 31)) + (1 : Int32))] [(.int (8 : Int32)), (.int (y &&& (255 : Int32))), (.int ((x &&& (255 : Int32)) <<< ((0 : Int32) &&& 31)))])) _
  refine XS.ishl X4.here hx rfl (hb hby d20_56) rfl ?_
  refine XS.ior X4.here hx rfl (hb hby d20_57) rfl ?_
  refine XS.i2c X4.here hx rfl (hb hby d20_58) rfl ?_
  exact retN X4 hx (t := .char) Bd.returns (by simp) (hb hby d20_59) hr
 ·show Q20 Z r0 p1 kk nn vs x y cst fv h0 n0 _ T4.heap _
  rw [e4]
  exact ⟨by rw [fget], N0, rfl⟩
theorem d19_0 : decode jdk_52_method_4_code 0 = .ok (.getstatic 44, 3) := by decide +kernel
theorem d19_3 : decode jdk_52_method_4_code 3 = .ok (.ifCond .ne 25, 3) := by decide +kernel
theorem d19_28 : decode jdk_52_method_4_code 28 = .ok (.iload_n 1, 1) := by decide +kernel
theorem d19_29 : decode jdk_52_method_4_code 29 = .ok (.iconst 1, 1) := by decide +kernel
theorem d19_30 : decode jdk_52_method_4_code 30 = .ok (.ishl, 1) := by decide +kernel
theorem d19_31 : decode jdk_52_method_4_code 31 = .ok (.istore_n 1, 1) := by decide +kernel
theorem d19_32 : decode jdk_52_method_4_code 32 = .ok (.aload_n 0, 1) := by decide +kernel
theorem d19_33 : decode jdk_52_method_4_code 33 = .ok (.iload_n 1, 1) := by decide +kernel
theorem d19_34 : decode jdk_52_method_4_code 34 = .ok (.iinc 1 1, 3) := by decide +kernel
theorem d19_37 : decode jdk_52_method_4_code 37 = .ok (.iload_n 2, 1) := by decide +kernel
theorem d19_38 : decode jdk_52_method_4_code 38 = .ok (.getstatic 59, 3) := by decide +kernel
theorem d19_41 : decode jdk_52_method_4_code 41 = .ok (.ishr, 1) := by decide +kernel
theorem d19_42 : decode jdk_52_method_4_code 42 = .ok (.i2b, 1) := by decide +kernel
theorem d19_43 : decode jdk_52_method_4_code 43 = .ok (.bastore, 1) := by decide +kernel
theorem d19_44 : decode jdk_52_method_4_code 44 = .ok (.aload_n 0, 1) := by decide +kernel
theorem d19_45 : decode jdk_52_method_4_code 45 = .ok (.iload_n 1, 1) := by decide +kernel
theorem d19_46 : decode jdk_52_method_4_code 46 = .ok (.iload_n 2, 1) := by decide +kernel
theorem d19_47 : decode jdk_52_method_4_code 47 = .ok (.getstatic 63, 3) := by decide +kernel
theorem d19_50 : decode jdk_52_method_4_code 50 = .ok (.ishr, 1) := by decide +kernel
theorem d19_51 : decode jdk_52_method_4_code 51 = .ok (.i2b, 1) := by decide +kernel
theorem d19_52 : decode jdk_52_method_4_code 52 = .ok (.bastore, 1) := by decide +kernel
theorem d19_53 : decode jdk_52_method_4_code 53 = .ok (.return_, 1) := by decide +kernel
def Q19 (Z : State) (r0 : Addr) (p1 : Int32) (p2 : Int32) (kk : ClassId) (nn : Int32) (vs : List Value) (cst : Int32) (fv : Value) (h0 : Heap) (n0 : Nat) (v : Option Value) (h : Heap) (L : List Loc) : Prop := v = none ∧ Fr n0 L ∧ Keep h0 h [r0] ∧ Arv Z h r0 kk .byte nn ((vs.set ((p1 <<< ((1 : Int32) &&& 31))).toNatClampNeg (.int (nar .byte ((p2 >>> ((0 : Int32) &&& 31)).toInt8.toInt32)))).set (((p1 <<< ((1 : Int32) &&& 31)) + (1 : Int32))).toNatClampNeg (.int (nar .byte ((p2 >>> ((8 : Int32) &&& 31)).toInt8.toInt32)))) (.int (0 : Int32))
theorem ef_rm19 (m : MethodId) (x0 : Addr) (x1 : Int32) (x2 : Int32) : entryFrame m #[(.ref x0), (.int x1), (.int x2)] 3 = mkF m 0 #[.val (.ref x0), .val (.int x1), .val (.int x2)] [] := by first | (simp [entryFrame, mkF, argsToLocals, Value.category]; done) | rfl
set_option maxRecDepth 65536 in
set_option maxHeartbeats 40000000 in
theorem rm19 (l : Launch) (Z : State) (a0 : Array Value) (hw : ∀ d ∈ tables_1, d.before a0 Z = true) (ws : List Jvm.Cond) (r0 : Addr) (p1 : Int32) (p2 : Int32) (kk : ClassId) (nn : Int32) (vs : List Value) (cst : Int32) (fv : Value) (h0 : Heap) (n0 : Nat) (Z0 : n0 ≤ h0.size) (V0 : Arv Z h0 r0 kk .byte nn vs (.int (0 : Int32))) (O0 : Old Z n0 h0) (i0 : ¬ (p1 <<< ((1 : Int32) &&& 31)) < 0 ∧ (p1 <<< ((1 : Int32) &&& 31)) < nn) (i1 : ¬ ((p1 <<< ((1 : Int32) &&& 31)) + (1 : Int32)) < 0 ∧ ((p1 <<< ((1 : Int32) &&& 31)) + (1 : Int32)) < nn) (l0 : ((p1 <<< ((1 : Int32) &&& 31))).toNatClampNeg < vs.length) (l1 : (((p1 <<< ((1 : Int32) &&& 31)) + (1 : Int32))).toNatClampNeg < vs.length) (g_r0 : n0 ≤ r0) (SS : Sts Z cst fv) :
  MetFree l (⟨"java/lang/StringUTF16", "putChar", "([BII)V"⟩ : MethodName) (head1 (Jvm.Cond.code (⟨"java/lang/StringUTF16", "putChar", "([BII)V"⟩ : MethodName) jdk_52_method_4_code 3 none :: ws) ({ frames := 0, cells := 0, slots := 0, locals := 0 } : Room)) (fun a U => a = #[(.ref r0), (.int p1), (.int p2)] ∧ Z.Warmed39 U.vm ∧ U.heap = h0) (fun _ _ _ _ _ => True) (fun _ U o U' => ∃ v L, o = .returned v ∧ Q19 Z r0 p1 p2 kk nn vs cst fv h0 n0 v U'.heap L ∧ FrameEnd U o U' L ({ frames := 0, cells := 0, slots := 0, locals := 0 } : Room).cells ({ frames := 0, cells := 0, slots := 0, locals := 0 } : Room).slots) := by
 refine MetFree.of_bodySF (plainFor_of_name pnc_java_lang_StringUTF16) hisR ?_
 intro p e s m args below meth c s₁ Bd hml0 hP hK
 obtain ⟨rfl, hZ, hh⟩ := hP
 have hx := Bd.exec
 have hby := Bd.bytes
 have hml : c.maxLocals = 3 := hml0
 have hown : s.vm.findClass "java/lang/StringUTF16" = some m.cls := findClass_of_methodNamed Bd.named
 have hnm := (name_of_methodNamed Bd.named Bd.method).1
 have X0 : Stand p l e ({ frames := 0, cells := 0, slots := 0, locals := 0 } : Room) s m #[(.ref r0), (.int p1), (.int p2)] below meth c s₁ [] 0 0 := Stand.of_body Bd
 have e0 : s₁.heap = h0 := by rw [← hh, Bd.state]; rfl
 have N0 := Fr.nil n0
 have kp0 : Keep h0 h0 [r0] := Keep.refl _ _
 have G0 : ∀ t, Steps p.tables e below (s₁.setTop (mkF m 0 #[rv r0, iv p1, iv p2] [])) t → Steps p.tables e below (s₁.setTop (entryFrame m #[(.ref r0), (.int p1), (.int p2)] 3)) t := fun t k => castTop (ef_rm19 m r0 p1 p2) k
 obtain ⟨T1, X1, e1, st1⟩ := getS2 X0 hx hZ hown (host := "") (Or.inl (hq hw 86 rfl)) Via.refl e0 (SS.2.2.1.ext O0.2) (g := (mkF m 0 #[rv r0, iv p1, iv p2] [])) rfl (hb hby d19_0)
 have G2 : ∀ t, Steps p.tables e below (T1.setTop (mkF m 3 #[rv r0, iv p1, iv p2] [(.int (1 : Int32))])) t → Steps p.tables e below (s₁.setTop (entryFrame m #[(.ref r0), (.int p1), (.int p2)] 3)) t := by
  intro t kt
  refine G0 _ ?_
  refine st1 _ ?_
  exact kt
 obtain ⟨T3, X3, e3, st3⟩ := getS2 X1 hx hZ hown (host := "") (Or.inl (hq hw 87 rfl)) Via.refl e1 (SS.2.2.2.1.ext O0.2) (g := (mkF m 38 #[rv r0, iv ((p1 <<< ((1 : Int32) &&& 31)) + (1 : Int32)), iv p2] [(.int p2), (.int (p1 <<< ((1 : Int32) &&& 31))), (.ref r0)])) rfl (hb hby d19_38)
 obtain ⟨cl4, Ar4, q4, S4, M4, H4, G4⟩ := id V0
 have hin4 : ¬ ((p1 <<< ((1 : Int32) &&& 31)) < 0 ∨ cl4.slots.size ≤ ((p1 <<< ((1 : Int32) &&& 31))).toNatClampNeg) := inb_of S4 i0
 obtain ⟨T5, h5, X5, e5, W5, st5⟩ := stB X3 hx hZ e3 Ar4 (j := (p1 <<< ((1 : Int32) &&& 31))) hin4 (g := (mkF m 43 #[rv r0, iv ((p1 <<< ((1 : Int32) &&& 31)) + (1 : Int32)), iv p2] [(.int ((p2 >>> ((0 : Int32) &&& 31)).toInt8.toInt32)), (.int (p1 <<< ((1 : Int32) &&& 31))), (.ref r0)])) rfl rfl (hb hby d19_43)
 have fa6 := O0.wr W5 g_r0
 have z7 : n0 ≤ h5.size := Nat.le_trans Z0 (Nat.le_of_eq W5.size.symm)
 have kp8 : Keep h0 h5 [r0] := kp0.wr W5 (Or.inl (List.mem_of_getElem? (i := 0) rfl))
 have fa9 : Arv Z h5 r0 kk .byte nn (vs.set ((p1 <<< ((1 : Int32) &&& 31))).toNatClampNeg (.int (nar .byte ((p2 >>> ((0 : Int32) &&& 31)).toInt8.toInt32)))) (.int (0 : Int32)) := Arv.set Ar4 q4 S4 M4 H4 G4 (fits_nar_byte _) W5 _ rfl l0
 have N5 := Fr.snoc X5 N0 g_r0
 obtain ⟨T10, X10, e10, st10⟩ := getS2 X5 hx hZ hown (host := "") (Or.inl (hq hw 88 rfl)) Via.refl e5 (SS.2.2.2.2.1.ext fa6.2) (g := (mkF m 47 #[rv r0, iv ((p1 <<< ((1 : Int32) &&& 31)) + (1 : Int32)), iv p2] [(.int p2), (.int ((p1 <<< ((1 : Int32) &&& 31)) + (1 : Int32))), (.ref r0)])) rfl (hb hby d19_47)
 obtain ⟨cl11, Ar11, q11, S11, M11, H11, G11⟩ := id fa9
 have hin11 : ¬ (((p1 <<< ((1 : Int32) &&& 31)) + (1 : Int32)) < 0 ∨ cl11.slots.size ≤ (((p1 <<< ((1 : Int32) &&& 31)) + (1 : Int32))).toNatClampNeg) := inb_of S11 i1
 obtain ⟨T12, h12, X12, e12, W12, st12⟩ := stB X10 hx hZ e10 Ar11 (j := ((p1 <<< ((1 : Int32) &&& 31)) + (1 : Int32))) hin11 (g := (mkF m 52 #[rv r0, iv ((p1 <<< ((1 : Int32) &&& 31)) + (1 : Int32)), iv p2] [(.int ((p2 >>> ((8 : Int32) &&& 31)).toInt8.toInt32)), (.int ((p1 <<< ((1 : Int32) &&& 31)) + (1 : Int32))), (.ref r0)])) rfl rfl (hb hby d19_52)
 have fa13 := fa6.wr W12 g_r0
 have z14 : n0 ≤ h12.size := Nat.le_trans z7 (Nat.le_of_eq W12.size.symm)
 have kp15 : Keep h0 h12 [r0] := kp8.wr W12 (Or.inl (List.mem_of_getElem? (i := 0) rfl))
 have fa16 : Arv Z h12 r0 kk .byte nn ((vs.set ((p1 <<< ((1 : Int32) &&& 31))).toNatClampNeg (.int (nar .byte ((p2 >>> ((0 : Int32) &&& 31)).toInt8.toInt32)))).set (((p1 <<< ((1 : Int32) &&& 31)) + (1 : Int32))).toNatClampNeg (.int (nar .byte ((p2 >>> ((8 : Int32) &&& 31)).toInt8.toInt32)))) (.int (0 : Int32)) := Arv.set Ar11 q11 S11 M11 H11 G11 (fits_nar_byte _) W12 _ rfl (by rw [List.length_set]; exact l1)
 have N12 := Fr.snoc X12 N5 g_r0
 obtain ⟨fs, hr, hrun, hended, hW, hsame⟩ := X12.leave (v := none) (fun _ => rfl)
 refine ⟨_, _, G2 _ ?_, hrun, hended, _, _, rfl, ?_, ⟨_, rfl⟩, hW, hsame.mono (by decide) (by decide)⟩
 ·skip
  refine XS.ifYes X1.here hx rfl (pc0 := 3) (pc' := 28) rfl (hb hby d19_3) rfl ((if0 _ _).trans (feq (by decide)).2) (by decide) (by decide) ?_
  refine XS.iloadN X1.here hx rfl (hb hby d19_28) rfl ?_
  refine XS.iconst X1.here hx rfl (hb hby d19_29) ?_
  refine XS.ishl X1.here hx rfl (hb hby d19_30) rfl ?_
  refine XS.istoreN X1.here hx rfl (hb hby d19_31) rfl (l' := #[rv r0, iv (p1 <<< ((1 : Int32) &&& 31)), iv p2]) rfl ?_
  refine XS.aloadN X1.here hx rfl (hb hby d19_32) rfl rfl ?_
  refine XS.iloadN X1.here hx rfl (hb hby d19_33) rfl ?_
  refine XS.iinc X1.here hx rfl (hb hby d19_34) rfl (l' := #[rv r0, iv ((p1 <<< ((1 : Int32) &&& 31)) + (1 : Int32)), iv p2]) rfl ?_
  refine XS.iloadN X1.here hx rfl (hb hby d19_37) rfl ?_
  refine st3 _ ?_
  refine XS.ishr X3.here hx rfl (hb hby d19_41) rfl ?_
  refine XS.i2b X3.here hx rfl (hb hby d19_42) rfl ?_
  refine st5 _ ?_
  refine XS.aloadN X5.here hx rfl (hb hby d19_44) rfl rfl ?_
  refine XS.iloadN X5.here hx rfl (hb hby d19_45) rfl ?_
  refine XS.iloadN X5.here hx rfl (hb hby d19_46) rfl ?_
  refine st10 _ ?_
  refine XS.ishr X10.here hx rfl (hb hby d19_50) rfl ?_
  refine XS.i2b X10.here hx rfl (hb hby d19_51) rfl ?_
  show Steps p.tables e below (T10.setTop (mkF m 52 #[rv r0, iv ((p1 <<< ((1 : Int32) &&& 31)) + (1 : Int32)), iv p2] [(.int ((p2 >>> ((8 : Int32) &&& 31)).toInt8.toInt32)), (.int ((p1 <<< ((1 : Int32) &&& 31)) + (1 : Int32))), (.ref r0)])) _
  refine st12 _ ?_
  exact X12.returnOut hx Bd.returns (hb hby d19_53) hr
 ·show Q19 Z r0 p1 p2 kk nn vs cst fv h0 n0 _ T12.heap _
  rw [e12]
  exact ⟨rfl, N12, kp15, fa16⟩
theorem d18_0 : decode jdk_52_method_3_code 0 = .ok (.iload_n 0, 1) := by decide +kernel
theorem d18_1 : decode jdk_52_method_3_code 1 = .ok (.ifCond .ge 11, 3) := by decide +kernel
theorem d18_12 : decode jdk_52_method_3_code 12 = .ok (.iload_n 0, 1) := by decide +kernel
theorem d18_13 : decode jdk_52_method_3_code 13 = .ok (.ldc 20, 2) := by decide +kernel
theorem d18_15 : decode jdk_52_method_3_code 15 = .ok (.if_icmp .lt 40, 3) := by decide +kernel
theorem d18_55 : decode jdk_52_method_3_code 55 = .ok (.iload_n 0, 1) := by decide +kernel
theorem d18_56 : decode jdk_52_method_3_code 56 = .ok (.iconst 1, 1) := by decide +kernel
theorem d18_57 : decode jdk_52_method_3_code 57 = .ok (.ishl, 1) := by decide +kernel
theorem d18_58 : decode jdk_52_method_3_code 58 = .ok (.ireturn, 1) := by decide +kernel
def Q18 (Z : State) (p0 : Int32) (h0 : Heap) (n0 : Nat) (v : Option Value) (h : Heap) (L : List Loc) : Prop := v = some (.int (p0 <<< ((1 : Int32) &&& 31))) ∧ Fr n0 L ∧ h = h0
theorem ef_rm18 (m : MethodId) (x0 : Int32) : entryFrame m #[(.int x0)] 1 = mkF m 0 #[.val (.int x0)] [] := by first | (simp [entryFrame, mkF, argsToLocals, Value.category]; done) | rfl
set_option maxRecDepth 65536 in
set_option maxHeartbeats 40000000 in
theorem rm18 (l : Launch) (Z : State) (a0 : Array Value) (hw : ∀ d ∈ tables_1, d.before a0 Z = true) (ws : List Jvm.Cond) (p0 : Int32) (h0 : Heap) (n0 : Nat) (Z0 : n0 ≤ h0.size) (hlo : ¬ (p0 < (0 : Int32))) (hhi : p0 < (1073741823 : Int32)) :
  MetFree l (⟨"java/lang/StringUTF16", "newBytesLength", "(I)I"⟩ : MethodName) (head1 (Jvm.Cond.code (⟨"java/lang/StringUTF16", "newBytesLength", "(I)I"⟩ : MethodName) jdk_52_method_3_code 1 (some .int) :: ws) ({ frames := 0, cells := 0, slots := 0, locals := 0 } : Room)) (fun a U => a = #[(.int p0)] ∧ Z.Warmed39 U.vm ∧ U.heap = h0) (fun _ _ _ _ _ => True) (fun _ U o U' => ∃ v L, o = .returned v ∧ Q18 Z p0 h0 n0 v U'.heap L ∧ FrameEnd U o U' L ({ frames := 0, cells := 0, slots := 0, locals := 0 } : Room).cells ({ frames := 0, cells := 0, slots := 0, locals := 0 } : Room).slots) := by
 refine MetFree.of_bodySF (plainFor_of_name pnc_java_lang_StringUTF16) hisR ?_
 intro p e s m args below meth c s₁ Bd hml0 hP hK
 obtain ⟨rfl, hZ, hh⟩ := hP
 have hx := Bd.exec
 have hby := Bd.bytes
 have hml : c.maxLocals = 1 := hml0
 have hown : s.vm.findClass "java/lang/StringUTF16" = some m.cls := findClass_of_methodNamed Bd.named
 have hnm := (name_of_methodNamed Bd.named Bd.method).1
 have X0 : Stand p l e ({ frames := 0, cells := 0, slots := 0, locals := 0 } : Room) s m #[(.int p0)] below meth c s₁ [] 0 0 := Stand.of_body Bd
 have e0 : s₁.heap = h0 := by rw [← hh, Bd.state]; rfl
 have N0 := Fr.nil n0
 have kp0 : Keep h0 h0 [] := Keep.refl _ _
 have G0 : ∀ t, Steps p.tables e below (s₁.setTop (mkF m 0 #[iv p0] [])) t → Steps p.tables e below (s₁.setTop (entryFrame m #[(.int p0)] 1)) t := fun t k => castTop (ef_rm18 m p0) k
 have G1 : ∀ t, Steps p.tables e below (s₁.setTop (mkF m 1 #[iv p0] [(.int p0)])) t → Steps p.tables e below (s₁.setTop (entryFrame m #[(.int p0)] 1)) t := by
  intro t kt
  refine G0 _ ?_
  refine XS.iloadN X0.here hx rfl (hb hby d18_0) rfl ?_
  exact kt
 have hc1_2 : ¬ (p0 < (0 : Int32)) := hlo
 have G3 : ∀ t, Steps p.tables e below (s₁.setTop (mkF m 15 #[iv p0] [(.int (1073741823 : Int32)), (.int p0)])) t → Steps p.tables e below (s₁.setTop (entryFrame m #[(.int p0)] 1)) t := by
  intro t kt
  refine G1 _ ?_
  refine XS.ifYes X0.here hx rfl (pc0 := 1) (pc' := 12) rfl (hb hby d18_1) rfl ((if0 _ _).trans (flt hc1_2).2.1) (by decide) (by decide) ?_
  refine XS.iloadN X0.here hx rfl (hb hby d18_12) rfl ?_
  refine X0.ldcInt hx hown (mvT hZ (hq hw 82 rfl)) (g := (mkF m 13 #[iv p0] [(.int p0)])) rfl (hb hby d18_13) _ ?_
  exact kt
 have hc15_4 : p0 < (1073741823 : Int32) := hhi
 obtain ⟨fs, hr, hrun, hended, hW, hsame⟩ := X0.leave (v := some (.int (p0 <<< ((1 : Int32) &&& 31)))) (fun h => by rw [Bd.returns] at h; cases h)
 refine ⟨_, _, G3 _ ?_, hrun, hended, _, _, rfl, ?_, ⟨_, rfl⟩, hW, hsame.mono (by decide) (by decide)⟩
 ·skip
  refine XS.icmpYes X0.here hx rfl (pc0 := 15) (pc' := 55) rfl (hb hby d18_15) rfl (tlt hc15_4).1 (by decide) (by decide) ?_
  refine XS.iloadN X0.here hx rfl (hb hby d18_55) rfl ?_
  refine XS.iconst X0.here hx rfl (hb hby d18_56) ?_
  refine XS.ishl X0.here hx rfl (hb hby d18_57) rfl ?_
  exact retI X0 hx Bd.returns (hb hby d18_58) hr
 ·show Q18 Z p0 h0 n0 _ s₁.heap _
  rw [e0]
  exact ⟨rfl, N0, rfl⟩
theorem d22_0 : decode jdk_52_method_91_code 0 = .ok (.iload_n 0, 1) := by decide +kernel
theorem d22_1 : decode jdk_52_method_91_code 1 = .ok (.aload_n 1, 1) := by decide +kernel
theorem d22_2 : decode jdk_52_method_91_code 2 = .ok (.invokestatic 48, 3) := by decide +kernel
theorem pd_2 : parseMethodDescriptor "([B)I" = some ⟨[(.array .byte)], some .int⟩ := by decide +kernel
theorem d22_5 : decode jdk_52_method_91_code 5 = .ok (.invokestatic 414, 3) := by decide +kernel
theorem pd_3 : parseMethodDescriptor "(II)V" = some ⟨[.int, .int], none⟩ := by decide +kernel
theorem d22_8 : decode jdk_52_method_91_code 8 = .ok (.return_, 1) := by decide +kernel
def Q22 (Z : State) (p0 : Int32) (r1 : Addr) (kk : ClassId) (nn : Int32) (vs : List Value) (cst : Int32) (fv : Value) (h0 : Heap) (n0 : Nat) (v : Option Value) (h : Heap) (L : List Loc) : Prop := v = none ∧ Fr n0 L ∧ h = h0
theorem ef_rm22 (m : MethodId) (x0 : Int32) (x1 : Addr) : entryFrame m #[(.int x0), (.ref x1)] 2 = mkF m 0 #[.val (.int x0), .val (.ref x1)] [] := by first | (simp [entryFrame, mkF, argsToLocals, Value.category]; done) | rfl
set_option maxRecDepth 65536 in
set_option maxHeartbeats 40000000 in
theorem rm22 (l : Launch) (Z : State) (a0 : Array Value) (hw : ∀ d ∈ tables_1, d.before a0 Z = true) (ws : List Jvm.Cond) (p0 : Int32) (r1 : Addr) (kk : ClassId) (nn : Int32) (vs : List Value) (cst : Int32) (fv : Value) (h0 : Heap) (n0 : Nat) (Z0 : n0 ≤ h0.size) (V0 : Arv Z h0 r1 kk .byte nn vs (.int (0 : Int32))) (O0 : Old Z n0 h0) (hlo : ¬ (p0 < (0 : Int32))) (hhi : p0 < (nn >>> ((1 : Int32) &&& 31))) (SS : Sts Z cst fv) :
  MetFree l (⟨"java/lang/StringUTF16", "checkIndex", "(I[B)V"⟩ : MethodName) (head1 (Jvm.Cond.code (⟨"java/lang/StringUTF16", "checkIndex", "(I[B)V"⟩ : MethodName) jdk_52_method_91_code 2 none :: ws) ({ frames := 2, cells := 0, slots := 0, locals := 27 } : Room)) (fun a U => a = #[(.int p0), (.ref r1)] ∧ Z.Warmed39 U.vm ∧ U.heap = h0) (fun _ _ _ _ _ => True) (fun _ U o U' => ∃ v L, o = .returned v ∧ Q22 Z p0 r1 kk nn vs cst fv h0 n0 v U'.heap L ∧ FrameEnd U o U' L ({ frames := 2, cells := 0, slots := 0, locals := 27 } : Room).cells ({ frames := 2, cells := 0, slots := 0, locals := 27 } : Room).slots) := by
 refine MetFree.of_bodySF (plainFor_of_name pnc_java_lang_StringUTF16) hisR ?_
 intro p e s m args below meth c s₁ Bd hml0 hP hK
 obtain ⟨rfl, hZ, hh⟩ := hP
 have hx := Bd.exec
 have hby := Bd.bytes
 have hml : c.maxLocals = 2 := hml0
 have hown : s.vm.findClass "java/lang/StringUTF16" = some m.cls := findClass_of_methodNamed Bd.named
 have hnm := (name_of_methodNamed Bd.named Bd.method).1
 have X0 : Stand p l e ({ frames := 2, cells := 0, slots := 0, locals := 27 } : Room) s m #[(.int p0), (.ref r1)] below meth c s₁ [] 0 0 := Stand.of_body Bd
 have e0 : s₁.heap = h0 := by rw [← hh, Bd.state]; rfl
 have N0 := Fr.nil n0
 have kp0 : Keep h0 h0 [] := Keep.refl _ _
 have G0 : ∀ t, Steps p.tables e below (s₁.setTop (mkF m 0 #[iv p0, rv r1] [])) t → Steps p.tables e below (s₁.setTop (entryFrame m #[(.int p0), (.ref r1)] 2)) t := fun t k => castTop (ef_rm22 m p0 r1) k
 obtain ⟨_, _, ⟨T1, L1, k1, n1⟩, -, X1, ⟨Lc1, hQ1, l1, y1, z1⟩, st1⟩ := Jvm.LawKit.callS X0 hx (y := (⟨"java/lang/StringUTF16", "length", "([B)I"⟩ : MethodName)) hown (mvT hZ (hq hw 98 rfl)) (mvT hZ (hq hw 99 rfl)) (mvT hZ (hq hw 17 rfl)) (mvT hZ (hq hw 100 rfl)) (by decide) (backOf (W := 1) (rm23 l Z a0 hw [] r1 kk nn vs cst fv h0 n0 Z0 V0 O0  SS) hZ (hq hw 100 rfl) (hq hw 17 rfl) (by decide) (by decide)) (g := (mkF m 2 #[iv p0, rv r1] [(.ref r1), (.int p0)])) rfl (by rw [hml]; rfl) (argsL := [(.ref r1)]) (rest := [(.int p0)]) (lenOf pd_2 rfl) rfl (by show 2 * 0 + _ ≤ _; exact Nat.le_of_eq rfl) (hb hby d22_2) (fun _ _ => ⟨rfl, e0, (by decide : 0 + 0 ≤ _), (by decide : 0 + 0 ≤ _)⟩)
 dsimp only [Pt.U, Pt.locs, Pt.cells, Pt.slots] at X1 l1 y1 z1 st1 hQ1
 subst l1 y1 z1
 obtain ⟨rfl, N1q, eh1⟩ := hQ1
 have N1 := Fr.app N0 N1q
 obtain ⟨_, _, ⟨T2, L2, k2, n2⟩, -, X2, ⟨Lc2, hQ2, l2, y2, z2⟩, st2⟩ := Jvm.LawKit.callS X1 hx (y := (⟨"java/lang/String", "checkIndex", "(II)V"⟩ : MethodName)) hown (mvT hZ (hq hw 101 rfl)) (mvT hZ (hq hw 63 rfl)) (mvT hZ (hq hw 3 rfl)) (mvT hZ (hq hw 64 rfl)) (by decide) (backOf (W := 0) (rm14 l Z a0 hw [] p0 (nn >>> ((1 : Int32) &&& 31))  cst fv h0 n0 Z0  O0 hlo hhi SS) hZ (hq hw 64 rfl) (hq hw 3 rfl) (by decide) (by decide)) (g := (mkF m 5 #[iv p0, rv r1] [(.int (nn >>> ((1 : Int32) &&& 31))), (.int p0)])) rfl (by rw [hml]; rfl) (argsL := [(.int p0), (.int (nn >>> ((1 : Int32) &&& 31)))]) (rest := []) (lenOf pd_3 rfl) rfl (by show 2 * 0 + _ ≤ _; exact Nat.le_of_eq rfl) (hb hby d22_5) (fun _ _ => ⟨rfl, eh1, (by decide : 0 + 0 ≤ _), (by decide : 0 + 0 ≤ _)⟩)
 dsimp only [Pt.U, Pt.locs, Pt.cells, Pt.slots] at X2 l2 y2 z2 st2 hQ2
 subst l2 y2 z2
 obtain ⟨rfl, N2q, eh2⟩ := hQ2
 have N2 := Fr.app N1 N2q
 obtain ⟨fs, hr, hrun, hended, hW, hsame⟩ := X2.leave (v := none) (fun _ => rfl)
 refine ⟨_, _, G0 _ ?_, hrun, hended, _, _, rfl, ?_, ⟨_, rfl⟩, hW, hsame.mono (by decide) (by decide)⟩
 ·skip
  refine XS.iloadN X0.here hx rfl (hb hby d22_0) rfl ?_
  refine XS.aloadN X0.here hx rfl (hb hby d22_1) rfl rfl ?_
  refine st1 _ ?_
  refine st2 _ ?_
  exact X2.returnOut hx Bd.returns (hb hby d22_8) hr
 ·show Q22 Z p0 r1 kk nn vs cst fv h0 n0 _ T2.heap _
  rw [eh2]
  exact ⟨rfl, N2, rfl⟩
theorem d21_0 : decode jdk_52_method_83_code 0 = .ok (.iload_n 1, 1) := by decide +kernel
theorem d21_1 : decode jdk_52_method_83_code 1 = .ok (.aload_n 0, 1) := by decide +kernel
theorem d21_2 : decode jdk_52_method_83_code 2 = .ok (.invokestatic 67, 3) := by decide +kernel
theorem pd_4 : parseMethodDescriptor "(I[B)V" = some ⟨[.int, (.array .byte)], none⟩ := by decide +kernel
theorem d21_5 : decode jdk_52_method_83_code 5 = .ok (.aload_n 0, 1) := by decide +kernel
theorem d21_6 : decode jdk_52_method_83_code 6 = .ok (.iload_n 1, 1) := by decide +kernel
theorem d21_7 : decode jdk_52_method_83_code 7 = .ok (.invokestatic 71, 3) := by decide +kernel
theorem pd_5 : parseMethodDescriptor "([BI)C" = some ⟨[(.array .byte), .int], some .char⟩ := by decide +kernel
theorem d21_10 : decode jdk_52_method_83_code 10 = .ok (.ireturn, 1) := by decide +kernel
def fchU (x : Int32) (y : Int32) : Int32 := nar .char (fget x y)
def Q21 (Z : State) (r0 : Addr) (p1 : Int32) (kk : ClassId) (nn : Int32) (vs : List Value) (x y : Int32) (cst : Int32) (fv : Value) (h0 : Heap) (n0 : Nat) (v : Option Value) (h : Heap) (L : List Loc) : Prop := v = some (.int (fchU x y)) ∧ Fr n0 L ∧ h = h0
theorem ef_rm21 (m : MethodId) (x0 : Addr) (x1 : Int32) : entryFrame m #[(.ref x0), (.int x1)] 2 = mkF m 0 #[.val (.ref x0), .val (.int x1)] [] := by first | (simp [entryFrame, mkF, argsToLocals, Value.category]; done) | rfl
set_option maxRecDepth 65536 in
set_option maxHeartbeats 40000000 in
theorem rm21 (l : Launch) (Z : State) (a0 : Array Value) (hw : ∀ d ∈ tables_1, d.before a0 Z = true) (ws : List Jvm.Cond) (r0 : Addr) (p1 : Int32) (kk : ClassId) (nn : Int32) (vs : List Value) (x y : Int32) (cst : Int32) (fv : Value) (h0 : Heap) (n0 : Nat) (Z0 : n0 ≤ h0.size) (V0 : Arv Z h0 r0 kk .byte nn vs (.int (0 : Int32))) (O0 : Old Z n0 h0) (hlo : ¬ (p1 < (0 : Int32))) (hhi2 : p1 < (nn >>> ((1 : Int32) &&& 31))) (i0 : ¬ (p1 <<< ((1 : Int32) &&& 31)) < 0 ∧ (p1 <<< ((1 : Int32) &&& 31)) < nn) (i1 : ¬ ((p1 <<< ((1 : Int32) &&& 31)) + (1 : Int32)) < 0 ∧ ((p1 <<< ((1 : Int32) &&& 31)) + (1 : Int32)) < nn) (g0 : vs.getD ((p1 <<< ((1 : Int32) &&& 31))).toNatClampNeg (.int (0 : Int32)) = .int x) (g1 : vs.getD (((p1 <<< ((1 : Int32) &&& 31)) + (1 : Int32))).toNatClampNeg (.int (0 : Int32)) = .int y) (SS : Sts Z cst fv) :
  MetFree l (⟨"java/lang/StringUTF16", "charAt", "([BI)C"⟩ : MethodName) (head1 (Jvm.Cond.code (⟨"java/lang/StringUTF16", "charAt", "([BI)C"⟩ : MethodName) jdk_52_method_83_code 2 (some .char) :: ws) ({ frames := 3, cells := 0, slots := 0, locals := 40 } : Room)) (fun a U => a = #[(.ref r0), (.int p1)] ∧ Z.Warmed39 U.vm ∧ U.heap = h0) (fun _ _ _ _ _ => True) (fun _ U o U' => ∃ v L, o = .returned v ∧ Q21 Z r0 p1 kk nn vs x y cst fv h0 n0 v U'.heap L ∧ FrameEnd U o U' L ({ frames := 3, cells := 0, slots := 0, locals := 40 } : Room).cells ({ frames := 3, cells := 0, slots := 0, locals := 40 } : Room).slots) := by
 refine MetFree.of_bodySF (plainFor_of_name pnc_java_lang_StringUTF16) hisR ?_
 intro p e s m args below meth c s₁ Bd hml0 hP hK
 obtain ⟨rfl, hZ, hh⟩ := hP
 have hx := Bd.exec
 have hby := Bd.bytes
 have hml : c.maxLocals = 2 := hml0
 have hown : s.vm.findClass "java/lang/StringUTF16" = some m.cls := findClass_of_methodNamed Bd.named
 have hnm := (name_of_methodNamed Bd.named Bd.method).1
 have X0 : Stand p l e ({ frames := 3, cells := 0, slots := 0, locals := 40 } : Room) s m #[(.ref r0), (.int p1)] below meth c s₁ [] 0 0 := Stand.of_body Bd
 have e0 : s₁.heap = h0 := by rw [← hh, Bd.state]; rfl
 have N0 := Fr.nil n0
 have kp0 : Keep h0 h0 [] := Keep.refl _ _
 have G0 : ∀ t, Steps p.tables e below (s₁.setTop (mkF m 0 #[rv r0, iv p1] [])) t → Steps p.tables e below (s₁.setTop (entryFrame m #[(.ref r0), (.int p1)] 2)) t := fun t k => castTop (ef_rm21 m r0 p1) k
 obtain ⟨_, _, ⟨T1, L1, k1, n1⟩, -, X1, ⟨Lc1, hQ1, l1, y1, z1⟩, st1⟩ := Jvm.LawKit.callS X0 hx (y := (⟨"java/lang/StringUTF16", "checkIndex", "(I[B)V"⟩ : MethodName)) hown (mvT hZ (hq hw 95 rfl)) (mvT hZ (hq hw 96 rfl)) (mvT hZ (hq hw 17 rfl)) (mvT hZ (hq hw 97 rfl)) (by decide) (backOf (W := 0) (rm22 l Z a0 hw [] p1 r0 kk nn vs cst fv h0 n0 Z0 V0 O0 hlo hhi2 SS) hZ (hq hw 97 rfl) (hq hw 17 rfl) (by decide) (by decide)) (g := (mkF m 2 #[rv r0, iv p1] [(.ref r0), (.int p1)])) rfl (by rw [hml]; rfl) (argsL := [(.int p1), (.ref r0)]) (rest := []) (lenOf pd_4 rfl) rfl (by show 2 * 0 + _ ≤ _; exact Nat.le_of_eq rfl) (hb hby d21_2) (fun _ _ => ⟨rfl, e0, (by decide : 0 + 0 ≤ _), (by decide : 0 + 0 ≤ _)⟩)
 dsimp only [Pt.U, Pt.locs, Pt.cells, Pt.slots] at X1 l1 y1 z1 st1 hQ1
 subst l1 y1 z1
 obtain ⟨rfl, N1q, eh1⟩ := hQ1
 have N1 := Fr.app N0 N1q
 obtain ⟨_, _, ⟨T2, L2, k2, n2⟩, -, X2, ⟨Lc2, hQ2, l2, y2, z2⟩, st2⟩ := Jvm.LawKit.callS X1 hx (y := (⟨"java/lang/StringUTF16", "getChar", "([BI)C"⟩ : MethodName)) hown (mvT hZ (hq hw 89 rfl)) (mvT hZ (hq hw 90 rfl)) (mvT hZ (hq hw 17 rfl)) (mvT hZ (hq hw 91 rfl)) (by decide) (backOf (W := 0) (rm20 l Z a0 hw [] r0 p1 kk nn vs x y cst fv h0 n0 Z0 V0 O0 i0 i1 g0 g1 SS) hZ (hq hw 91 rfl) (hq hw 17 rfl) (by decide) (by decide)) (g := (mkF m 7 #[rv r0, iv p1] [(.int p1), (.ref r0)])) rfl (by rw [hml]; rfl) (argsL := [(.ref r0), (.int p1)]) (rest := []) (lenOf pd_5 rfl) rfl (by show 2 * 0 + _ ≤ _; exact Nat.le_of_eq rfl) (hb hby d21_7) (fun _ _ => ⟨rfl, eh1, (by decide : 0 + 0 ≤ _), (by decide : 0 + 0 ≤ _)⟩)
 dsimp only [Pt.U, Pt.locs, Pt.cells, Pt.slots] at X2 l2 y2 z2 st2 hQ2
 subst l2 y2 z2
 obtain ⟨rfl, N2q, eh2⟩ := hQ2
 have N2 := Fr.app N1 N2q
 obtain ⟨fs, hr, hrun, hended, hW, hsame⟩ := X2.leave (v := some (.int (nar .char (fget x y)))) (fun h => by rw [Bd.returns] at h; cases h)
 refine ⟨_, _, G0 _ ?_, hrun, hended, _, _, rfl, ?_, ⟨_, rfl⟩, hW, hsame.mono (by decide) (by decide)⟩
 ·skip
  refine XS.iloadN X0.here hx rfl (hb hby d21_0) rfl ?_
  refine XS.aloadN X0.here hx rfl (hb hby d21_1) rfl rfl ?_
  refine st1 _ ?_
  refine XS.aloadN X1.here hx rfl (hb hby d21_5) rfl rfl ?_
  refine XS.iloadN X1.here hx rfl (hb hby d21_6) rfl ?_
  refine st2 _ ?_
  exact retN X2 hx (t := .char) Bd.returns (by simp) (hb hby d21_10) hr
 ·show Q21 Z r0 p1 kk nn vs x y cst fv h0 n0 _ T2.heap _
  rw [eh2]
  exact ⟨by rw [fchU], N2, rfl⟩
theorem d13_0 : decode jdk_43_method_2_code 0 = .ok (.iload_n 1, 1) := by decide +kernel
theorem d13_1 : decode jdk_43_method_2_code 1 = .ok (.aload_n 0, 1) := by decide +kernel
theorem d13_2 : decode jdk_43_method_2_code 2 = .ok (.arraylength, 1) := by decide +kernel
theorem d13_3 : decode jdk_43_method_2_code 3 = .ok (.invokestatic 9, 3) := by decide +kernel
theorem d13_6 : decode jdk_43_method_2_code 6 = .ok (.aload_n 0, 1) := by decide +kernel
theorem d13_7 : decode jdk_43_method_2_code 7 = .ok (.iload_n 1, 1) := by decide +kernel
theorem d13_8 : decode jdk_43_method_2_code 8 = .ok (.baload, 1) := by decide +kernel
theorem d13_9 : decode jdk_43_method_2_code 9 = .ok (.sipush 255, 3) := by decide +kernel
theorem d13_12 : decode jdk_43_method_2_code 12 = .ok (.iand, 1) := by decide +kernel
theorem d13_13 : decode jdk_43_method_2_code 13 = .ok (.i2c, 1) := by decide +kernel
theorem d13_14 : decode jdk_43_method_2_code 14 = .ok (.ireturn, 1) := by decide +kernel
def fchL (x : Int32) : Int32 := nar .char ((x &&& (255 : Int32)).toUInt32.toUInt16.toUInt32.toInt32)
def Q13 (Z : State) (r0 : Addr) (p1 : Int32) (kk : ClassId) (nn : Int32) (vs : List Value) (x : Int32) (cst : Int32) (fv : Value) (h0 : Heap) (n0 : Nat) (v : Option Value) (h : Heap) (L : List Loc) : Prop := v = some (.int (fchL x)) ∧ Fr n0 L ∧ h = h0
theorem ef_rm13 (m : MethodId) (x0 : Addr) (x1 : Int32) : entryFrame m #[(.ref x0), (.int x1)] 2 = mkF m 0 #[.val (.ref x0), .val (.int x1)] [] := by first | (simp [entryFrame, mkF, argsToLocals, Value.category]; done) | rfl
theorem pnc_java_lang_StringLatin1 : plainName "java/lang/StringLatin1" = true := by first | (simp [plainName, overriddenIn]; done) | decide +kernel
set_option maxRecDepth 65536 in
set_option maxHeartbeats 40000000 in
theorem rm13 (l : Launch) (Z : State) (a0 : Array Value) (hw : ∀ d ∈ tables_1, d.before a0 Z = true) (ws : List Jvm.Cond) (r0 : Addr) (p1 : Int32) (kk : ClassId) (nn : Int32) (vs : List Value) (x : Int32) (cst : Int32) (fv : Value) (h0 : Heap) (n0 : Nat) (Z0 : n0 ≤ h0.size) (V0 : Arv Z h0 r0 kk .byte nn vs (.int (0 : Int32))) (O0 : Old Z n0 h0) (hlo : ¬ (p1 < (0 : Int32))) (hhi : p1 < nn) (g0 : vs.getD (p1).toNatClampNeg (.int (0 : Int32)) = .int x) (SS : Sts Z cst fv) :
  MetFree l (⟨"java/lang/StringLatin1", "charAt", "([BI)C"⟩ : MethodName) (head1 (Jvm.Cond.code (⟨"java/lang/StringLatin1", "charAt", "([BI)C"⟩ : MethodName) jdk_43_method_2_code 2 (some .char) :: ws) ({ frames := 2, cells := 0, slots := 0, locals := 27 } : Room)) (fun a U => a = #[(.ref r0), (.int p1)] ∧ Z.Warmed39 U.vm ∧ U.heap = h0) (fun _ _ _ _ _ => True) (fun _ U o U' => ∃ v L, o = .returned v ∧ Q13 Z r0 p1 kk nn vs x cst fv h0 n0 v U'.heap L ∧ FrameEnd U o U' L ({ frames := 2, cells := 0, slots := 0, locals := 27 } : Room).cells ({ frames := 2, cells := 0, slots := 0, locals := 27 } : Room).slots) := by
 refine MetFree.of_bodySF (plainFor_of_name pnc_java_lang_StringLatin1) hisR ?_
 intro p e s m args below meth c s₁ Bd hml0 hP hK
 obtain ⟨rfl, hZ, hh⟩ := hP
 have hx := Bd.exec
 have hby := Bd.bytes
 have hml : c.maxLocals = 2 := hml0
 have hown : s.vm.findClass "java/lang/StringLatin1" = some m.cls := findClass_of_methodNamed Bd.named
 have hnm := (name_of_methodNamed Bd.named Bd.method).1
 have X0 : Stand p l e ({ frames := 2, cells := 0, slots := 0, locals := 27 } : Room) s m #[(.ref r0), (.int p1)] below meth c s₁ [] 0 0 := Stand.of_body Bd
 have e0 : s₁.heap = h0 := by rw [← hh, Bd.state]; rfl
 have N0 := Fr.nil n0
 have kp0 : Keep h0 h0 [] := Keep.refl _ _
 have G0 : ∀ t, Steps p.tables e below (s₁.setTop (mkF m 0 #[rv r0, iv p1] [])) t → Steps p.tables e below (s₁.setTop (entryFrame m #[(.ref r0), (.int p1)] 2)) t := fun t k => castTop (ef_rm13 m r0 p1) k
 obtain ⟨cl, Ar, qk, Sz, Mz, Hz, Gz⟩ := id V0
 have hin0 : ¬ (p1 < 0 ∨ cl.slots.size ≤ (p1).toNatClampNeg) := inb_of Sz ⟨hlo, hhi⟩
 have hat0 : cl.slots[(p1).toNatClampNeg]? = some (.int x) := Hz.at hin0 g0
 obtain ⟨cl1, Ar1, q1, S1, M1, H1, G1⟩ := id V0
 obtain ⟨_, _, ⟨T2, L2, k2, n2⟩, -, X2, ⟨Lc2, hQ2, l2, y2, z2⟩, st2⟩ := Jvm.LawKit.callS X0 hx (y := (⟨"java/lang/String", "checkIndex", "(II)V"⟩ : MethodName)) hown (mvT hZ (hq hw 62 rfl)) (mvT hZ (hq hw 63 rfl)) (mvT hZ (hq hw 3 rfl)) (mvT hZ (hq hw 64 rfl)) (by decide) (backOf (W := 0) (rm14 l Z a0 hw [] p1 nn  cst fv h0 n0 Z0  O0 hlo hhi SS) hZ (hq hw 64 rfl) (hq hw 3 rfl) (by decide) (by decide)) (g := (mkF m 3 #[rv r0, iv p1] [(.int nn), (.int p1)])) rfl (by rw [hml]; rfl) (argsL := [(.int p1), (.int nn)]) (rest := []) (lenOf pd_3 rfl) rfl (by show 2 * 0 + _ ≤ _; exact Nat.le_of_eq rfl) (hb hby d13_3) (fun _ _ => ⟨rfl, e0, (by decide : 0 + 0 ≤ _), (by decide : 0 + 0 ≤ _)⟩)
 dsimp only [Pt.U, Pt.locs, Pt.cells, Pt.slots] at X2 l2 y2 z2 st2 hQ2
 subst l2 y2 z2
 obtain ⟨rfl, N2q, eh2⟩ := hQ2
 have N2 := Fr.app N0 N2q
 obtain ⟨fs, hr, hrun, hended, hW, hsame⟩ := X2.leave (v := some (.int (nar .char ((x &&& (255 : Int32)).toUInt32.toUInt16.toUInt32.toInt32)))) (fun h => by rw [Bd.returns] at h; cases h)
 refine ⟨_, _, G0 _ ?_, hrun, hended, _, _, rfl, ?_, ⟨_, rfl⟩, hW, hsame.mono (by decide) (by decide)⟩
 ·skip
  refine XS.iloadN X0.here hx rfl (hb hby d13_0) rfl ?_
  refine XS.aloadN X0.here hx rfl (hb hby d13_1) rfl rfl ?_
  refine X0.arraylength hx (by rw [e0]; exact Ar1.1) (State.isArrayOf_alike hZ.alike Ar1.2.1) (g := (mkF m 2 #[rv r0, iv p1] [(.ref r0), (.int p1)])) rfl rfl (hb hby d13_2) _ ?_
  rw [len_of S1 M1]
  refine st2 _ ?_
  refine XS.aloadN X2.here hx rfl (hb hby d13_6) rfl rfl ?_
  refine XS.iloadN X2.here hx rfl (hb hby d13_7) rfl ?_
  refine X2.baloadBytes hx (j := p1) (v := (.int x)) (by rw [eh2]; exact Ar.1) (State.isArrayOf_alike hZ.alike Ar.2.1) Ar.2.2 hin0 hat0 (g := (mkF m 8 #[rv r0, iv p1] [(.int p1), (.ref r0)])) rfl rfl (hb hby d13_8) _ ?_
  refine XS.sipush X2.here hx rfl (hb hby d13_9) ?_
  refine XS.iand X2.here hx rfl (hb hby d13_12) rfl ?_
  refine XS.i2c X2.here hx rfl (hb hby d13_13) rfl ?_
  exact retN X2 hx (t := .char) Bd.returns (by simp) (hb hby d13_14) hr
 ·show Q13 Z r0 p1 kk nn vs x cst fv h0 n0 _ T2.heap _
  rw [eh2]
  exact ⟨by rw [fchL], N2, rfl⟩
theorem d11_0 : decode jdk_42_method_56_code 0 = .ok (.aload_n 0, 1) := by decide +kernel
theorem d11_1 : decode jdk_42_method_56_code 1 = .ok (.invokevirtual 492, 3) := by decide +kernel
theorem pd_6 : parseMethodDescriptor "()Z" = some ⟨[], some .boolean⟩ := by decide +kernel
theorem d11_4 : decode jdk_42_method_56_code 4 = .ok (.ifCond .eq 12, 3) := by decide +kernel
theorem d11_7 : decode jdk_42_method_56_code 7 = .ok (.aload_n 0, 1) := by decide +kernel
theorem d11_8 : decode jdk_42_method_56_code 8 = .ok (.getfield 9, 3) := by decide +kernel
theorem d11_11 : decode jdk_42_method_56_code 11 = .ok (.iload_n 1, 1) := by decide +kernel
theorem d11_12 : decode jdk_42_method_56_code 12 = .ok (.invokestatic 495, 3) := by decide +kernel
theorem d11_15 : decode jdk_42_method_56_code 15 = .ok (.ireturn, 1) := by decide +kernel
def QChL (Z : State) (r0 : Addr) (p1 : Int32) (ta : Addr) (kk : ClassId) (nn : Int32) (vs : List Value) (x r : Int32) (cst : Int32) (fv : Value) (h0 : Heap) (n0 : Nat) (v : Option Value) (h : Heap) (L : List Loc) : Prop := v = some (.int r) ∧ Fr n0 L ∧ h = h0
theorem ef_rmChL (m : MethodId) (x0 : Addr) (x1 : Int32) : entryFrame m #[(.ref x0), (.int x1)] 2 = mkF m 0 #[.val (.ref x0), .val (.int x1)] [] := by first | (simp [entryFrame, mkF, argsToLocals, Value.category]; done) | rfl
set_option maxRecDepth 65536 in
set_option maxHeartbeats 40000000 in
theorem rmChL (l : Launch) (Z : State) (a0 : Array Value) (hw : ∀ d ∈ tables_1, d.before a0 Z = true) (ws : List Jvm.Cond) (r0 : Addr) (p1 : Int32) (ta : Addr) (kk : ClassId) (nn : Int32) (vs : List Value) (x r : Int32) (cst : Int32) (fv : Value) (h0 : Heap) (n0 : Nat) (Z0 : n0 ≤ h0.size) (E0 : Exa Z h0 r0 "java/lang/String") (Fc : Fld Z h0 r0 "java/lang/String" "coder" "B" (.int (0 : Int32))) (Fv : Fld Z h0 r0 "java/lang/String" "value" "[B" (.ref ta)) (V0 : Arv Z h0 ta kk .byte nn vs (.int (0 : Int32))) (O0 : Old Z n0 h0) (hlo : ¬ (p1 < (0 : Int32))) (hhi : p1 < nn) (g0 : vs.getD (p1).toNatClampNeg (.int (0 : Int32)) = .int x) (hres : nar .char (fchL x) = r) (SS : Sts Z cst fv) :
  MetFree l (⟨"java/lang/String", "charAt", "(I)C"⟩ : MethodName) (head1 (Jvm.Cond.code (⟨"java/lang/String", "charAt", "(I)C"⟩ : MethodName) jdk_42_method_56_code 2 (some .char) :: ws) ({ frames := 3, cells := 0, slots := 0, locals := 40 } : Room)) (fun a U => a = #[(.ref r0), (.int p1)] ∧ Z.Warmed39 U.vm ∧ U.heap = h0) (fun _ _ _ _ _ => True) (fun _ U o U' => ∃ v L, o = .returned v ∧ QChL Z r0 p1 ta kk nn vs x r cst fv h0 n0 v U'.heap L ∧ FrameEnd U o U' L ({ frames := 3, cells := 0, slots := 0, locals := 40 } : Room).cells ({ frames := 3, cells := 0, slots := 0, locals := 40 } : Room).slots) := by
 refine MetFree.of_bodySF (plainFor_of_name pnc_java_lang_String) hisR ?_
 intro p e s m args below meth c s₁ Bd hml0 hP hK
 obtain ⟨rfl, hZ, hh⟩ := hP
 have hx := Bd.exec
 have hby := Bd.bytes
 have hml : c.maxLocals = 2 := hml0
 have hown : s.vm.findClass "java/lang/String" = some m.cls := findClass_of_methodNamed Bd.named
 have hnm := (name_of_methodNamed Bd.named Bd.method).1
 have X0 : Stand p l e ({ frames := 3, cells := 0, slots := 0, locals := 40 } : Room) s m #[(.ref r0), (.int p1)] below meth c s₁ [] 0 0 := Stand.of_body Bd
 have e0 : s₁.heap = h0 := by rw [← hh, Bd.state]; rfl
 have N0 := Fr.nil n0
 have kp0 : Keep h0 h0 [] := Keep.refl _ _
 have G0 : ∀ t, Steps p.tables e below (s₁.setTop (mkF m 0 #[rv r0, iv p1] [])) t → Steps p.tables e below (s₁.setTop (entryFrame m #[(.ref r0), (.int p1)] 2)) t := fun t k => castTop (ef_rmChL m r0 p1) k
 obtain ⟨cq1, kq1, q1a, q1b, q1c⟩ := isOf hZ e0 E0
 obtain ⟨_, _, ⟨T1, L1, k1, n1⟩, -, X1, ⟨Lc1, hQ1, l1, y1, z1⟩, st1⟩ := X0.virtualBack hx (y := (⟨"java/lang/String", "isLatin1", "()Z"⟩ : MethodName)) (z := (⟨"java/lang/String", "isLatin1", "()Z"⟩ : MethodName)) hown (mvT hZ (hq hw 53 rfl)) (mvT hZ (hq hw 54 rfl)) (notFace_of_selects (args := #[]) (mvT hZ (hq hw 56 rfl))) (mvT hZ (hq hw 56 rfl)) (mvT hZ (hq hw 55 rfl)) (by decide) (backOf (W := 0) (rm12 l Z a0 hw [] r0 (0 : Int32) cst fv h0 n0 Z0 Fc O0  SS) hZ (hq hw 57 rfl) (hq hw 3 rfl) (by decide) (by decide)) q1a q1c (g := (mkF m 1 #[rv r0, iv p1] [(.ref r0)])) rfl (by rw [hml]; rfl) (Steps.refl _) (argsL := []) (rest := []) (lenOf pd_6 rfl) rfl (by show 2 * 0 + _ ≤ _; exact Nat.le_of_eq rfl) (hb hby d11_1) (fun _ _ => ⟨rfl, e0, (by decide : 0 + 0 ≤ _), (by decide : 0 + 0 ≤ _)⟩)
 dsimp only [Pt.U, Pt.locs, Pt.cells, Pt.slots] at X1 l1 y1 z1 st1 hQ1
 subst l1 y1 z1
 obtain ⟨rfl, N1q, eh1⟩ := hQ1
 have N1 := Fr.app N0 N1q
 have G2 : ∀ t, Steps p.tables e below (T1.setTop (mkF m 4 #[rv r0, iv p1] [(.int (1 : Int32))])) t → Steps p.tables e below (s₁.setTop (entryFrame m #[(.ref r0), (.int p1)] 2)) t := by
  intro t kt
  refine G0 _ ?_
  refine XS.aloadN X0.here hx rfl (hb hby d11_0) rfl rfl ?_
  refine st1.trans ?_
  exact kt
 obtain ⟨T3, X3, e3, st3⟩ := getF X1 hx hZ hown (host := "") (Or.inl (hq hw 28 rfl)) Via.refl eh1 Fv (g := (mkF m 8 #[rv r0, iv p1] [(.ref r0)])) rfl rfl (hb hby d11_8)
 obtain ⟨_, _, ⟨T4, L4, k4, n4⟩, -, X4, ⟨Lc4, hQ4, l4, y4, z4⟩, st4⟩ := Jvm.LawKit.callS X3 hx (y := (⟨"java/lang/StringLatin1", "charAt", "([BI)C"⟩ : MethodName)) hown (mvT hZ (hq hw 58 rfl)) (mvT hZ (hq hw 59 rfl)) (mvT hZ (hq hw 60 rfl)) (mvT hZ (hq hw 61 rfl)) (by decide) (backOf (W := 0) (rm13 l Z a0 hw [] ta p1 kk nn vs x cst fv h0 n0 Z0 V0 O0 hlo hhi g0 SS) hZ (hq hw 61 rfl) (hq hw 60 rfl) (by decide) (by decide)) (g := (mkF m 12 #[rv r0, iv p1] [(.int p1), (.ref ta)])) rfl (by rw [hml]; rfl) (argsL := [(.ref ta), (.int p1)]) (rest := []) (lenOf pd_5 rfl) rfl (by show 2 * 0 + _ ≤ _; exact Nat.le_of_eq rfl) (hb hby d11_12) (fun _ _ => ⟨rfl, e3, (by decide : 0 + 0 ≤ _), (by decide : 0 + 0 ≤ _)⟩)
 dsimp only [Pt.U, Pt.locs, Pt.cells, Pt.slots] at X4 l4 y4 z4 st4 hQ4
 subst l4 y4 z4
 obtain ⟨rfl, N4q, eh4⟩ := hQ4
 have N4 := Fr.app N1 N4q
 obtain ⟨fs, hr, hrun, hended, hW, hsame⟩ := X4.leave (v := some (.int (nar .char (fchL x)))) (fun h => by rw [Bd.returns] at h; cases h)
 refine ⟨_, _, G2 _ ?_, hrun, hended, _, _, rfl, ?_, ⟨_, rfl⟩, hW, hsame.mono (by decide) (by decide)⟩
 ·skip
  refine XS.ifNo X1.here hx rfl (hb hby d11_4) rfl ((if0 _ _).trans (feq (by decide)).1) ?_
  refine XS.aloadN X1.here hx rfl (hb hby d11_7) rfl rfl ?_
  refine st3 _ ?_
  refine XS.iloadN X3.here hx rfl (hb hby d11_11) rfl ?_
  refine st4 _ ?_
  exact retN X4 hx (t := .char) Bd.returns (by simp) (hb hby d11_15) hr
 ·show QChL Z r0 p1 ta kk nn vs x r cst fv h0 n0 _ T4.heap _
  rw [eh4]
  exact ⟨by rw [hres], N4, rfl⟩
theorem d11_16 : decode jdk_42_method_56_code 16 = .ok (.aload_n 0, 1) := by decide +kernel
theorem d11_17 : decode jdk_42_method_56_code 17 = .ok (.getfield 9, 3) := by decide +kernel
theorem d11_20 : decode jdk_42_method_56_code 20 = .ok (.iload_n 1, 1) := by decide +kernel
theorem d11_21 : decode jdk_42_method_56_code 21 = .ok (.invokestatic 498, 3) := by decide +kernel
theorem d11_24 : decode jdk_42_method_56_code 24 = .ok (.ireturn, 1) := by decide +kernel
def QChU (Z : State) (r0 : Addr) (p1 : Int32) (ta : Addr) (kk : ClassId) (nn : Int32) (vs : List Value) (x y r : Int32) (cst : Int32) (fv : Value) (h0 : Heap) (n0 : Nat) (v : Option Value) (h : Heap) (L : List Loc) : Prop := v = some (.int r) ∧ Fr n0 L ∧ h = h0
theorem ef_rmChU (m : MethodId) (x0 : Addr) (x1 : Int32) : entryFrame m #[(.ref x0), (.int x1)] 2 = mkF m 0 #[.val (.ref x0), .val (.int x1)] [] := by first | (simp [entryFrame, mkF, argsToLocals, Value.category]; done) | rfl
set_option maxRecDepth 65536 in
set_option maxHeartbeats 40000000 in
theorem rmChU (l : Launch) (Z : State) (a0 : Array Value) (hw : ∀ d ∈ tables_1, d.before a0 Z = true) (ws : List Jvm.Cond) (r0 : Addr) (p1 : Int32) (ta : Addr) (kk : ClassId) (nn : Int32) (vs : List Value) (x y r : Int32) (cst : Int32) (fv : Value) (h0 : Heap) (n0 : Nat) (Z0 : n0 ≤ h0.size) (E0 : Exa Z h0 r0 "java/lang/String") (Fc : Fld Z h0 r0 "java/lang/String" "coder" "B" (.int (1 : Int32))) (Fv : Fld Z h0 r0 "java/lang/String" "value" "[B" (.ref ta)) (V0 : Arv Z h0 ta kk .byte nn vs (.int (0 : Int32))) (O0 : Old Z n0 h0) (hlo : ¬ (p1 < (0 : Int32))) (hhi2 : p1 < (nn >>> ((1 : Int32) &&& 31))) (i0 : ¬ (p1 <<< ((1 : Int32) &&& 31)) < 0 ∧ (p1 <<< ((1 : Int32) &&& 31)) < nn) (i1 : ¬ ((p1 <<< ((1 : Int32) &&& 31)) + (1 : Int32)) < 0 ∧ ((p1 <<< ((1 : Int32) &&& 31)) + (1 : Int32)) < nn) (g0 : vs.getD ((p1 <<< ((1 : Int32) &&& 31))).toNatClampNeg (.int (0 : Int32)) = .int x) (g1 : vs.getD (((p1 <<< ((1 : Int32) &&& 31)) + (1 : Int32))).toNatClampNeg (.int (0 : Int32)) = .int y) (hres : nar .char (fchU x y) = r) (SS : Sts Z cst fv) :
  MetFree l (⟨"java/lang/String", "charAt", "(I)C"⟩ : MethodName) (head1 (Jvm.Cond.code (⟨"java/lang/String", "charAt", "(I)C"⟩ : MethodName) jdk_42_method_56_code 2 (some .char) :: ws) ({ frames := 4, cells := 0, slots := 0, locals := 53 } : Room)) (fun a U => a = #[(.ref r0), (.int p1)] ∧ Z.Warmed39 U.vm ∧ U.heap = h0) (fun _ _ _ _ _ => True) (fun _ U o U' => ∃ v L, o = .returned v ∧ QChU Z r0 p1 ta kk nn vs x y r cst fv h0 n0 v U'.heap L ∧ FrameEnd U o U' L ({ frames := 4, cells := 0, slots := 0, locals := 53 } : Room).cells ({ frames := 4, cells := 0, slots := 0, locals := 53 } : Room).slots) := by
 refine MetFree.of_bodySF (plainFor_of_name pnc_java_lang_String) hisR ?_
 intro p e s m args below meth c s₁ Bd hml0 hP hK
 obtain ⟨rfl, hZ, hh⟩ := hP
 have hx := Bd.exec
 have hby := Bd.bytes
 have hml : c.maxLocals = 2 := hml0
 have hown : s.vm.findClass "java/lang/String" = some m.cls := findClass_of_methodNamed Bd.named
 have hnm := (name_of_methodNamed Bd.named Bd.method).1
 have X0 : Stand p l e ({ frames := 4, cells := 0, slots := 0, locals := 53 } : Room) s m #[(.ref r0), (.int p1)] below meth c s₁ [] 0 0 := Stand.of_body Bd
 have e0 : s₁.heap = h0 := by rw [← hh, Bd.state]; rfl
 have N0 := Fr.nil n0
 have kp0 : Keep h0 h0 [] := Keep.refl _ _
 have G0 : ∀ t, Steps p.tables e below (s₁.setTop (mkF m 0 #[rv r0, iv p1] [])) t → Steps p.tables e below (s₁.setTop (entryFrame m #[(.ref r0), (.int p1)] 2)) t := fun t k => castTop (ef_rmChU m r0 p1) k
 obtain ⟨cq1, kq1, q1a, q1b, q1c⟩ := isOf hZ e0 E0
 obtain ⟨_, _, ⟨T1, L1, k1, n1⟩, -, X1, ⟨Lc1, hQ1, l1, y1, z1⟩, st1⟩ := X0.virtualBack hx (y := (⟨"java/lang/String", "isLatin1", "()Z"⟩ : MethodName)) (z := (⟨"java/lang/String", "isLatin1", "()Z"⟩ : MethodName)) hown (mvT hZ (hq hw 53 rfl)) (mvT hZ (hq hw 54 rfl)) (notFace_of_selects (args := #[]) (mvT hZ (hq hw 56 rfl))) (mvT hZ (hq hw 56 rfl)) (mvT hZ (hq hw 55 rfl)) (by decide) (backOf (W := 0) (rm12 l Z a0 hw [] r0 (1 : Int32) cst fv h0 n0 Z0 Fc O0  SS) hZ (hq hw 57 rfl) (hq hw 3 rfl) (by decide) (by decide)) q1a q1c (g := (mkF m 1 #[rv r0, iv p1] [(.ref r0)])) rfl (by rw [hml]; rfl) (Steps.refl _) (argsL := []) (rest := []) (lenOf pd_6 rfl) rfl (by show 2 * 0 + _ ≤ _; exact Nat.le_of_eq rfl) (hb hby d11_1) (fun _ _ => ⟨rfl, e0, (by decide : 0 + 0 ≤ _), (by decide : 0 + 0 ≤ _)⟩)
 dsimp only [Pt.U, Pt.locs, Pt.cells, Pt.slots] at X1 l1 y1 z1 st1 hQ1
 subst l1 y1 z1
 obtain ⟨rfl, N1q, eh1⟩ := hQ1
 have N1 := Fr.app N0 N1q
 have G2 : ∀ t, Steps p.tables e below (T1.setTop (mkF m 4 #[rv r0, iv p1] [(.int (0 : Int32))])) t → Steps p.tables e below (s₁.setTop (entryFrame m #[(.ref r0), (.int p1)] 2)) t := by
  intro t kt
  refine G0 _ ?_
  refine XS.aloadN X0.here hx rfl (hb hby d11_0) rfl rfl ?_
  refine st1.trans ?_
  exact kt
 obtain ⟨T3, X3, e3, st3⟩ := getF X1 hx hZ hown (host := "") (Or.inl (hq hw 28 rfl)) Via.refl eh1 Fv (g := (mkF m 17 #[rv r0, iv p1] [(.ref r0)])) rfl rfl (hb hby d11_17)
 obtain ⟨_, _, ⟨T4, L4, k4, n4⟩, -, X4, ⟨Lc4, hQ4, l4, y4, z4⟩, st4⟩ := Jvm.LawKit.callS X3 hx (y := (⟨"java/lang/StringUTF16", "charAt", "([BI)C"⟩ : MethodName)) hown (mvT hZ (hq hw 92 rfl)) (mvT hZ (hq hw 93 rfl)) (mvT hZ (hq hw 17 rfl)) (mvT hZ (hq hw 94 rfl)) (by decide) (backOf (W := 0) (rm21 l Z a0 hw [] ta p1 kk nn vs x y cst fv h0 n0 Z0 V0 O0 hlo hhi2 i0 i1 g0 g1 SS) hZ (hq hw 94 rfl) (hq hw 17 rfl) (by decide) (by decide)) (g := (mkF m 21 #[rv r0, iv p1] [(.int p1), (.ref ta)])) rfl (by rw [hml]; rfl) (argsL := [(.ref ta), (.int p1)]) (rest := []) (lenOf pd_5 rfl) rfl (by show 2 * 0 + _ ≤ _; exact Nat.le_of_eq rfl) (hb hby d11_21) (fun _ _ => ⟨rfl, e3, (by decide : 0 + 0 ≤ _), (by decide : 0 + 0 ≤ _)⟩)
 dsimp only [Pt.U, Pt.locs, Pt.cells, Pt.slots] at X4 l4 y4 z4 st4 hQ4
 subst l4 y4 z4
 obtain ⟨rfl, N4q, eh4⟩ := hQ4
 have N4 := Fr.app N1 N4q
 obtain ⟨fs, hr, hrun, hended, hW, hsame⟩ := X4.leave (v := some (.int (nar .char (fchU x y)))) (fun h => by rw [Bd.returns] at h; cases h)
 refine ⟨_, _, G2 _ ?_, hrun, hended, _, _, rfl, ?_, ⟨_, rfl⟩, hW, hsame.mono (by decide) (by decide)⟩
 ·skip
  refine XS.ifYes X1.here hx rfl (pc0 := 4) (pc' := 16) rfl (hb hby d11_4) rfl ((if0 _ _).trans (teq (by decide)).1) (by decide) (by decide) ?_
  refine XS.aloadN X1.here hx rfl (hb hby d11_16) rfl rfl ?_
  refine st3 _ ?_
  refine XS.iloadN X3.here hx rfl (hb hby d11_20) rfl ?_
  refine st4 _ ?_
  exact retN X4 hx (t := .char) Bd.returns (by simp) (hb hby d11_24) hr
 ·show QChU Z r0 p1 ta kk nn vs x y r cst fv h0 n0 _ T4.heap _
  rw [eh4]
  exact ⟨by rw [hres], N4, rfl⟩
theorem own_u16 (k : Int32) (h : 0 ≤ k.toInt ∧ k.toInt ≤ 65535) : fget (nar .byte ((k >>> ((0 : Int32) &&& 31)).toInt8.toInt32)) (nar .byte ((k >>> ((8 : Int32) &&& 31)).toInt8.toInt32)) = k := by
  have a0 := c_ishr k 0 0 (by decide)
  have a8 := c_ishr k 8 8 (by decide)
  have p0 : ((2 ^ 0 : Nat) : Int) = 1 := by decide
  have p8 : ((2 ^ 8 : Nat) : Int) = 256 := by decide
  rw [p0] at a0
  rw [p8] at a8
  generalize hx : k >>> ((0 : Int32) &&& 31) = x at a0 ⊢
  generalize hy : k >>> ((8 : Int32) &&& 31) = y at a8 ⊢
  have b0 := c_i2b x
  have b8 := c_i2b y
  have n0 : nar .byte (x.toInt8.toInt32) = x.toInt8.toInt32 := by show (x.toInt8.toInt32).toInt8.toInt32 = _; simp
  have n8 : nar .byte (y.toInt8.toInt32) = y.toInt8.toInt32 := by show (y.toInt8.toInt32).toInt8.toInt32 = _; simp
  rw [n0, n8, fget]
  generalize x.toInt8.toInt32 = u at b0 ⊢
  generalize y.toInt8.toInt32 = w at b8 ⊢
  have m0 := c_mask u 255 8 (by decide) (by decide)
  have m8 := c_mask w 255 8 (by decide) (by decide)
  rw [p8] at m0 m8
  generalize u &&& (255 : Int32) = s at m0 ⊢
  generalize w &&& (255 : Int32) = t at m8 ⊢
  have s0 := c_ishl s 0 0 (by decide)
  have s8 := c_ishl t 8 8 (by decide)
  rw [p0] at s0
  rw [p8] at s8
  have r0 := rng32 (s <<< ((0 : Int32) &&& 31))
  have r8 := rng32 (t <<< ((8 : Int32) &&& 31))
  generalize s <<< ((0 : Int32) &&& 31) = f at s0 r0 ⊢
  generalize t <<< ((8 : Int32) &&& 31) = g at s8 r8 ⊢
  have o := c_or' f g 8 (by decide) 256 (by decide) (by omega) (by omega) (by omega)
  have ro := rng32 (f ||| g)
  generalize f ||| g = q at o ro ⊢
  have c1 := c_i2c q
  generalize q.toUInt32.toUInt16.toUInt32.toInt32 = z at c1 ⊢
  have hz : z = k := Int32.toInt_inj.mp (by omega)
  rw [hz]
  exact own_narc k h

theorem own_lat (k : Int32) (h : 0 ≤ k.toInt ∧ k.toInt ≤ 65535) (hl : ¬ ((255 : Int32) < k)) : nar .char (fchL (nar .byte (k.toInt8.toInt32))) = k := by
  have e : (255 : Int32).toInt = 255 := by decide
  rw [Int32.lt_iff_toInt_lt, e] at hl
  have b0 := c_i2b k
  have n0 : nar .byte (k.toInt8.toInt32) = k.toInt8.toInt32 := by show (k.toInt8.toInt32).toInt8.toInt32 = _; simp
  have p8 : ((2 ^ 8 : Nat) : Int) = 256 := by decide
  rw [n0, fchL]
  generalize k.toInt8.toInt32 = u at b0 ⊢
  have m0 := c_mask u 255 8 (by decide) (by decide)
  rw [p8] at m0
  generalize u &&& (255 : Int32) = s at m0 ⊢
  have c1 := c_i2c s
  generalize s.toUInt32.toUInt16.toUInt32.toInt32 = z at c1 ⊢
  have hz : z = k := Int32.toInt_inj.mp (by omega)
  rw [hz, own_narc k h, own_narc k h]

theorem own_utf (k : Int32) (h : 0 ≤ k.toInt ∧ k.toInt ≤ 65535) : nar .char (fchU (nar .byte ((k >>> ((0 : Int32) &&& 31)).toInt8.toInt32)) (nar .byte ((k >>> ((8 : Int32) &&& 31)).toInt8.toInt32))) = k := by
  rw [fchU, own_u16 k h, own_narc k h, own_narc k h]

def own_EL : List (String × Nat) := [("java/lang/String", 7)]
theorem own_ew {Z : State} {a0 : Array Value} (hw : ∀ d ∈ tables_1, d.before a0 Z = true) : EW Z a0 own_EL := EW.cons (text := "") (hq hw 70 rfl) (by decide) EW.nil
theorem own_safe_null {Z : State} {EL : List (String × Nat)} {vm : Vm} {h : Heap} {x : Addr} {a0 : Array Value} (hal : Z.vm.Alike vm) (E : Exa Z h x "java/lang/String") (wi : (Jvm.Cond.instantiable "java/lang/String" 4).before a0 Z = true) (F : Fld Z h x "java/lang/String" "value" "[B" .null) : Safe Z EL vm h x := fun B => by
  obtain ⟨p, hp, u, a, hb, q, hq, S, hy⟩ := B
  obtain ⟨cS, ⟨⟨s1, s2, s3, ⟨cv, kv, iv, s4, s4'⟩, -, s6, s7, s8, s9, s10, s11, s12, -⟩, hfS, hcS⟩, -⟩ := S
  rcases hy with rfl | rfl
  · obtain ⟨cell, cf, k, i, f, h1, h2, h3, h4, h5, h6, h7⟩ := F
    obtain ⟨kv', z4⟩ := ff_back (U := Wst Z vm h) hal s4
    cases h2.symm.trans z4
    have s1' : h[q.sa]? = some q.sC := s1
    cases h1.symm.trans s1'
    cases h7.symm.trans s8
  · have s10' : h[q.sd]? = some q.SA := s10
    obtain ⟨cell, k, e1, e2, e3, -⟩ := E
    cases e1.symm.trans s10'
    obtain ⟨c2, k2, i1, i2, i3, -⟩ := Cond.instantiable_spec wi
    cases e2.symm.trans i1
    obtain ⟨-, k3, j1, comp, j2⟩ := s11
    obtain ⟨k', r1, r2⟩ := hal.2.2 _ _ i2
    have j1' : vm.classes[q.SA.cls]? = some k3 := j1
    cases r1.symm.trans j1'
    rw [r2] at j2
    rw [show k2.kind = _ from i3] at j2
    cases j2

theorem d5_0 : decode jdk_52_method_21_code 0 = .ok (.iconst 0, 1) := by decide +kernel
theorem d5_1 : decode jdk_52_method_21_code 1 = .ok (.istore 5, 2) := by decide +kernel
theorem d5_3 : decode jdk_52_method_21_code 3 = .ok (.iload 5, 2) := by decide +kernel
theorem d5_5 : decode jdk_52_method_21_code 5 = .ok (.iload 4, 2) := by decide +kernel
theorem d5_7 : decode jdk_52_method_21_code 7 = .ok (.if_icmp .ge 37, 3) := by decide +kernel
theorem d5_10 : decode jdk_52_method_21_code 10 = .ok (.aload_n 0, 1) := by decide +kernel
theorem d5_11 : decode jdk_52_method_21_code 11 = .ok (.iload_n 1, 1) := by decide +kernel
theorem d5_12 : decode jdk_52_method_21_code 12 = .ok (.caload, 1) := by decide +kernel
theorem d5_13 : decode jdk_52_method_21_code 13 = .ok (.istore 6, 2) := by decide +kernel
theorem d5_15 : decode jdk_52_method_21_code 15 = .ok (.iload 6, 2) := by decide +kernel
theorem d5_17 : decode jdk_52_method_21_code 17 = .ok (.sipush 255, 3) := by decide +kernel
theorem d5_20 : decode jdk_52_method_21_code 20 = .ok (.if_icmp .le 6, 3) := by decide +kernel
theorem d5_23 : decode jdk_52_method_21_code 23 = .ok (.iload 5, 2) := by decide +kernel
theorem d5_25 : decode jdk_52_method_21_code 25 = .ok (.ireturn, 1) := by decide +kernel
theorem d5_26 : decode jdk_52_method_21_code 26 = .ok (.aload_n 2, 1) := by decide +kernel
theorem d5_27 : decode jdk_52_method_21_code 27 = .ok (.iload_n 3, 1) := by decide +kernel
theorem d5_28 : decode jdk_52_method_21_code 28 = .ok (.iload 6, 2) := by decide +kernel
theorem d5_30 : decode jdk_52_method_21_code 30 = .ok (.i2b, 1) := by decide +kernel
theorem d5_31 : decode jdk_52_method_21_code 31 = .ok (.bastore, 1) := by decide +kernel
theorem d5_32 : decode jdk_52_method_21_code 32 = .ok (.iinc 1 1, 3) := by decide +kernel
theorem d5_35 : decode jdk_52_method_21_code 35 = .ok (.iinc 3 1, 3) := by decide +kernel
theorem d5_38 : decode jdk_52_method_21_code 38 = .ok (.iinc 5 1, 3) := by decide +kernel
theorem d5_41 : decode jdk_52_method_21_code 41 = .ok (.goto (-38), 3) := by decide +kernel
theorem d5_44 : decode jdk_52_method_21_code 44 = .ok (.iload 4, 2) := by decide +kernel
theorem d5_46 : decode jdk_52_method_21_code 46 = .ok (.ireturn, 1) := by decide +kernel
def QC5_1 (Z : State) (r0 : Addr) (r2 : Addr) (c0 : Int32) (ks kd : ClassId) (h0 : Heap) (n0 : Nat) (v : Option Value) (h : Heap) (L : List Loc) : Prop := (v = some (.int (0 : Int32)) ∧ Fr n0 L ∧ Keep h0 h [r2] ∧ (255 : Int32) < c0) ∨ (v = some (.int (1 : Int32)) ∧ Fr n0 L ∧ Keep h0 h [r2] ∧ ¬ ((255 : Int32) < c0) ∧ Arv Z h r2 kd .byte (1 : Int32) [(.int (nar .byte (c0.toInt8.toInt32)))] (.int (0 : Int32)))
theorem ef_rmC5_1 (m : MethodId) (x0 : Addr) (x1 : Int32) (x2 : Addr) (x3 : Int32) (x4 : Int32) : entryFrame m #[(.ref x0), (.int x1), (.ref x2), (.int x3), (.int x4)] 7 = mkF m 0 #[.val (.ref x0), .val (.int x1), .val (.ref x2), .val (.int x3), .val (.int x4), .unset, .unset] [] := by first | (simp [entryFrame, mkF, argsToLocals, Value.category]; done) | rfl
set_option maxRecDepth 65536 in
set_option maxHeartbeats 40000000 in
theorem rmC5_1 (l : Launch) (Z : State) (a0 : Array Value) (hw : ∀ d ∈ tables_1, d.before a0 Z = true) (ws : List Jvm.Cond) (r0 : Addr) (r2 : Addr) (c0 : Int32) (ks kd : ClassId) (h0 : Heap) (n0 : Nat) (Z0 : n0 ≤ h0.size) (Vs : Arv Z h0 r0 ks .char (1 : Int32) [(.int c0)] (.int (0 : Int32))) (Vd : Arv Z h0 r2 kd .byte (1 : Int32) [(.int (0 : Int32))] (.int (0 : Int32))) (hne : r0 ≠ r2) (g_r2 : n0 ≤ r2) :
  MetFree l (⟨"java/lang/StringUTF16", "compress", "([CI[BII)I"⟩ : MethodName) (head1 (Jvm.Cond.code (⟨"java/lang/StringUTF16", "compress", "([CI[BII)I"⟩ : MethodName) jdk_52_method_21_code 7 (some .int) :: ws) ({ frames := 0, cells := 0, slots := 0, locals := 0 } : Room)) (fun a U => a = #[(.ref r0), (.int (0 : Int32)), (.ref r2), (.int (0 : Int32)), (.int (1 : Int32))] ∧ Z.Warmed39 U.vm ∧ U.heap = h0) (fun _ _ _ _ _ => True) (fun _ U o U' => ∃ v L, o = .returned v ∧ QC5_1 Z r0 r2 c0 ks kd h0 n0 v U'.heap L ∧ FrameEnd U o U' L ({ frames := 0, cells := 0, slots := 0, locals := 0 } : Room).cells ({ frames := 0, cells := 0, slots := 0, locals := 0 } : Room).slots) := by
 refine MetFree.of_bodySF (plainFor_of_name pnc_java_lang_StringUTF16) hisR ?_
 intro p e s m args below meth c s₁ Bd hml0 hP hK
 obtain ⟨rfl, hZ, hh⟩ := hP
 have hx := Bd.exec
 have hby := Bd.bytes
 have hml : c.maxLocals = 7 := hml0
 have hown : s.vm.findClass "java/lang/StringUTF16" = some m.cls := findClass_of_methodNamed Bd.named
 have hnm := (name_of_methodNamed Bd.named Bd.method).1
 have X0 : Stand p l e ({ frames := 0, cells := 0, slots := 0, locals := 0 } : Room) s m #[(.ref r0), (.int (0 : Int32)), (.ref r2), (.int (0 : Int32)), (.int (1 : Int32))] below meth c s₁ [] 0 0 := Stand.of_body Bd
 have e0 : s₁.heap = h0 := by rw [← hh, Bd.state]; rfl
 have N0 := Fr.nil n0
 have kp0 : Keep h0 h0 [r2] := Keep.refl _ _
 have G0 : ∀ t, Steps p.tables e below (s₁.setTop (mkF m 0 #[rv r0, iv 0, rv r2, iv 0, iv 1, .unset, .unset] [])) t → Steps p.tables e below (s₁.setTop (entryFrame m #[(.ref r0), (.int (0 : Int32)), (.ref r2), (.int (0 : Int32)), (.int (1 : Int32))] 7)) t := fun t k => castTop (ef_rmC5_1 m r0 (0 : Int32) r2 (0 : Int32) (1 : Int32)) k
 have G1 : ∀ t, Steps p.tables e below (s₁.setTop (mkF m 7 #[rv r0, iv 0, rv r2, iv 0, iv 1, iv 0, .unset] [(.int (1 : Int32)), (.int (0 : Int32))])) t → Steps p.tables e below (s₁.setTop (entryFrame m #[(.ref r0), (.int (0 : Int32)), (.ref r2), (.int (0 : Int32)), (.int (1 : Int32))] 7)) t := by
  intro t kt
  refine G0 _ ?_
  refine XS.iconst X0.here hx rfl (hb hby d5_0) ?_
  refine XS.istore X0.here hx rfl (hb hby d5_1) rfl (l' := #[rv r0, iv 0, rv r2, iv 0, iv 1, iv 0, .unset]) rfl ?_
  refine XS.iload X0.here hx rfl (hb hby d5_3) rfl ?_
  refine XS.iload X0.here hx rfl (hb hby d5_5) rfl ?_
  exact kt
 obtain ⟨cl2, Ar2, q2, S2, M2, H2, G2⟩ := id Vs
 have hin2 : ¬ ((0 : Int32) < 0 ∨ cl2.slots.size ≤ ((0 : Int32)).toNatClampNeg) := inb_of S2 ⟨by decide, by decide⟩
 have hat2 : cl2.slots[((0 : Int32)).toNatClampNeg]? = some (.int c0) := H2.at hin2 rfl
 have G3 : ∀ t, Steps p.tables e below (s₁.setTop (mkF m 20 #[rv r0, iv 0, rv r2, iv 0, iv 1, iv 0, iv c0] [(.int (255 : Int32)), (.int c0)])) t → Steps p.tables e below (s₁.setTop (entryFrame m #[(.ref r0), (.int (0 : Int32)), (.ref r2), (.int (0 : Int32)), (.int (1 : Int32))] 7)) t := by
  intro t kt
  refine G1 _ ?_
  refine XS.icmpNo X0.here hx rfl (hb hby d5_7) rfl (tlt (by decide)).2.1 ?_
  refine XS.aloadN X0.here hx rfl (hb hby d5_10) rfl rfl ?_
  refine XS.iloadN X0.here hx rfl (hb hby d5_11) rfl ?_
  refine X0.caload hx (j := (0 : Int32)) (v := (.int c0)) (by rw [e0]; exact Ar2.1) (State.isArrayOf_alike hZ.alike Ar2.2.1) Ar2.2.2 hin2 hat2 (g := (mkF m 12 #[rv r0, iv 0, rv r2, iv 0, iv 1, iv 0, .unset] [(.int (0 : Int32)), (.ref r0)])) rfl rfl (hb hby d5_12) _ ?_
  refine XS.istore X0.here hx rfl (hb hby d5_13) rfl (l' := #[rv r0, iv 0, rv r2, iv 0, iv 1, iv 0, iv c0]) rfl ?_
  refine XS.iload X0.here hx rfl (hb hby d5_15) rfl ?_
  refine XS.sipush X0.here hx rfl (hb hby d5_17) ?_
  exact kt
 by_cases hc20_4 : (255 : Int32) < c0
 ·skip
  obtain ⟨fs, hr, hrun, hended, hW, hsame⟩ := X0.leave (v := some (.int (0 : Int32))) (fun h => by rw [Bd.returns] at h; cases h)
  refine ⟨_, _, G3 _ ?_, hrun, hended, _, _, rfl, ?_, ⟨_, rfl⟩, hW, hsame.mono (by decide) (by decide)⟩
  ·skip
   refine XS.icmpNo X0.here hx rfl (hb hby d5_20) rfl (tlt hc20_4).2.2.2 ?_
   refine XS.iload X0.here hx rfl (hb hby d5_23) rfl ?_
   exact retI X0 hx Bd.returns (hb hby d5_25) hr
  ·show QC5_1 Z r0 r2 c0 ks kd h0 n0 _ s₁.heap _
   rw [e0]
   exact Or.inl ⟨rfl, N0, kp0, hc20_4⟩
 ·skip
  obtain ⟨cl5, Ar5, q5, S5, M5, H5, G5⟩ := id Vd
  have hin5 : ¬ ((0 : Int32) < 0 ∨ cl5.slots.size ≤ ((0 : Int32)).toNatClampNeg) := inb_of S5 ⟨by decide, by decide⟩
  obtain ⟨T6, h6, X6, e6, W6, st6⟩ := stB X0 hx hZ e0 Ar5 (j := (0 : Int32)) hin5 (g := (mkF m 31 #[rv r0, iv 0, rv r2, iv 0, iv 1, iv 0, iv c0] [(.int (c0.toInt8.toInt32)), (.int (0 : Int32)), (.ref r2)])) rfl rfl (hb hby d5_31)
  have fa7 := Vs.other W6 hne
  have z8 : n0 ≤ h6.size := Nat.le_trans Z0 (Nat.le_of_eq W6.size.symm)
  have kp9 : Keep h0 h6 [r2] := kp0.wr W6 (Or.inl (List.mem_of_getElem? (i := 0) rfl))
  have fa10 : Arv Z h6 r2 kd .byte (1 : Int32) [(.int (nar .byte (c0.toInt8.toInt32)))] (.int (0 : Int32)) := Arv.set Ar5 q5 S5 M5 H5 G5 (fits_nar_byte _) W6 0 rfl (Nat.le_of_ble_eq_true rfl)
  have N6 := Fr.snoc X6 N0 g_r2
  have G11 : ∀ t, Steps p.tables e below (T6.setTop (mkF m 7 #[rv r0, iv 1, rv r2, iv 1, iv 1, iv 1, iv c0] [(.int (1 : Int32)), (.int (1 : Int32))])) t → Steps p.tables e below (s₁.setTop (entryFrame m #[(.ref r0), (.int (0 : Int32)), (.ref r2), (.int (0 : Int32)), (.int (1 : Int32))] 7)) t := by
   intro t kt
   refine G3 _ ?_
   refine XS.icmpYes X0.here hx rfl (pc0 := 20) (pc' := 26) rfl (hb hby d5_20) rfl (flt hc20_4).2.2.2 (by decide) (by decide) ?_
   refine XS.aloadN X0.here hx rfl (hb hby d5_26) rfl rfl ?_
   refine XS.iloadN X0.here hx rfl (hb hby d5_27) rfl ?_
   refine XS.iload X0.here hx rfl (hb hby d5_28) rfl ?_
   refine XS.i2b X0.here hx rfl (hb hby d5_30) rfl ?_
   refine st6 _ ?_
   refine XS.iinc X6.here hx rfl (hb hby d5_32) rfl (l' := #[rv r0, iv 1, rv r2, iv 0, iv 1, iv 0, iv c0]) rfl ?_
   refine XS.iinc X6.here hx rfl (hb hby d5_35) rfl (l' := #[rv r0, iv 1, rv r2, iv 1, iv 1, iv 0, iv c0]) rfl ?_
   refine XS.iinc X6.here hx rfl (hb hby d5_38) rfl (l' := #[rv r0, iv 1, rv r2, iv 1, iv 1, iv 1, iv c0]) rfl ?_
   refine XS.goto X6.here hx rfl (pc0 := 41) (pc' := 3) rfl (hb hby d5_41) (by decide) (by decide) ?_
   show Steps p.tables e below (T6.setTop (mkF m 3 #[rv r0, iv 1, rv r2, iv 1, iv 1, iv 1, iv c0] [])) _
   refine XS.iload X6.here hx rfl (hb hby d5_3) rfl ?_
   refine XS.iload X6.here hx rfl (hb hby d5_5) rfl ?_
   exact kt
  obtain ⟨fs, hr, hrun, hended, hW, hsame⟩ := X6.leave (v := some (.int (1 : Int32))) (fun h => by rw [Bd.returns] at h; cases h)
  refine ⟨_, _, G11 _ ?_, hrun, hended, _, _, rfl, ?_, ⟨_, rfl⟩, hW, hsame.mono (by decide) (by decide)⟩
  ·skip
   refine XS.icmpYes X6.here hx rfl (pc0 := 7) (pc' := 44) rfl (hb hby d5_7) rfl (flt (by decide)).2.1 (by decide) (by decide) ?_
   refine XS.iload X6.here hx rfl (hb hby d5_44) rfl ?_
   exact retI X6 hx Bd.returns (hb hby d5_46) hr
  ·show QC5_1 Z r0 r2 c0 ks kd h0 n0 _ T6.heap _
   rw [e6]
   exact Or.inr (⟨rfl, N6, kp9, hc20_4, fa10⟩)
theorem d17_0 : decode jdk_52_method_2_code 0 = .ok (.iload_n 0, 1) := by decide +kernel
theorem d17_1 : decode jdk_52_method_2_code 1 = .ok (.invokestatic 11, 3) := by decide +kernel
theorem pd_7 : parseMethodDescriptor "(I)I" = some ⟨[.int], some .int⟩ := by decide +kernel
theorem d17_4 : decode jdk_52_method_2_code 4 = .ok (.newarray .byte, 2) := by decide +kernel
theorem d17_6 : decode jdk_52_method_2_code 6 = .ok (.areturn, 1) := by decide +kernel
def QNB_1 (Z : State)  (h0 : Heap) (n0 : Nat) (v : Option Value) (h : Heap) (L : List Loc) : Prop := ∃ (b : Addr) (k : ClassId), v = some (.ref b) ∧ Fr n0 L ∧ Keep h0 h [] ∧ n0 ≤ b ∧ h0.size ≤ b ∧ Arv Z h b k .byte (2 : Int32) [(.int (0 : Int32)), (.int (0 : Int32))] (.int (0 : Int32))
theorem ef_rmNB_1 (m : MethodId) (x0 : Int32) : entryFrame m #[(.int x0)] 1 = mkF m 0 #[.val (.int x0)] [] := by first | (simp [entryFrame, mkF, argsToLocals, Value.category]; done) | rfl
set_option maxRecDepth 65536 in
set_option maxHeartbeats 40000000 in
theorem rmNB_1 (l : Launch) (Z : State) (a0 : Array Value) (hw : ∀ d ∈ tables_1, d.before a0 Z = true) (ws : List Jvm.Cond)  (h0 : Heap) (n0 : Nat) (Z0 : n0 ≤ h0.size) :
  MetFree l (⟨"java/lang/StringUTF16", "newBytesFor", "(I)[B"⟩ : MethodName) (head1 (Jvm.Cond.code (⟨"java/lang/StringUTF16", "newBytesFor", "(I)[B"⟩ : MethodName) jdk_52_method_2_code 1 (some (.array .byte)) :: ws) ({ frames := 1, cells := 1, slots := 2, locals := 12 } : Room)) (fun a U => a = #[(.int (1 : Int32))] ∧ Z.Warmed39 U.vm ∧ U.heap = h0) (fun _ _ _ _ _ => True) (fun _ U o U' => ∃ v L, o = .returned v ∧ QNB_1 Z  h0 n0 v U'.heap L ∧ FrameEnd U o U' L ({ frames := 1, cells := 1, slots := 2, locals := 12 } : Room).cells ({ frames := 1, cells := 1, slots := 2, locals := 12 } : Room).slots) := by
 refine MetFree.of_bodySF (plainFor_of_name pnc_java_lang_StringUTF16) hisR ?_
 intro p e s m args below meth c s₁ Bd hml0 hP hK
 obtain ⟨rfl, hZ, hh⟩ := hP
 have hx := Bd.exec
 have hby := Bd.bytes
 have hml : c.maxLocals = 1 := hml0
 have hown : s.vm.findClass "java/lang/StringUTF16" = some m.cls := findClass_of_methodNamed Bd.named
 have hnm := (name_of_methodNamed Bd.named Bd.method).1
 have X0 : Stand p l e ({ frames := 1, cells := 1, slots := 2, locals := 12 } : Room) s m #[(.int (1 : Int32))] below meth c s₁ [] 0 0 := Stand.of_body Bd
 have e0 : s₁.heap = h0 := by rw [← hh, Bd.state]; rfl
 have N0 := Fr.nil n0
 have kp0 : Keep h0 h0 [] := Keep.refl _ _
 have G0 : ∀ t, Steps p.tables e below (s₁.setTop (mkF m 0 #[iv 1] [])) t → Steps p.tables e below (s₁.setTop (entryFrame m #[(.int (1 : Int32))] 1)) t := fun t k => castTop (ef_rmNB_1 m (1 : Int32)) k
 obtain ⟨_, _, ⟨T1, L1, k1, n1⟩, -, X1, ⟨Lc1, hQ1, l1, y1, z1⟩, st1⟩ := Jvm.LawKit.callS X0 hx (y := (⟨"java/lang/StringUTF16", "newBytesLength", "(I)I"⟩ : MethodName)) hown (mvT hZ (hq hw 79 rfl)) (mvT hZ (hq hw 80 rfl)) (mvT hZ (hq hw 17 rfl)) (mvT hZ (hq hw 81 rfl)) (by decide) (backOf (W := 0) (rm18 l Z a0 hw [] (1 : Int32)  h0 n0 Z0 (by decide) (by decide)) hZ (hq hw 81 rfl) (hq hw 17 rfl) (by decide) (by decide)) (g := (mkF m 1 #[iv 1] [(.int (1 : Int32))])) rfl (by rw [hml]; rfl) (argsL := [(.int (1 : Int32))]) (rest := []) (lenOf pd_7 rfl) rfl (by show 2 * 0 + _ ≤ _; exact Nat.le_of_eq rfl) (hb hby d17_1) (fun _ _ => ⟨rfl, e0, (by decide : 0 + 0 ≤ _), (by decide : 0 + 0 ≤ _)⟩)
 dsimp only [Pt.U, Pt.locs, Pt.cells, Pt.slots] at X1 l1 y1 z1 st1 hQ1
 subst l1 y1 z1
 obtain ⟨rfl, N1q, eh1⟩ := hQ1
 have N1 := Fr.app N0 N1q
 obtain ⟨T2, h2, k2, X2, e2, E2, A2, st2⟩ := newP X1 hx hZ (hq hw 19 rfl) eh1 (g := (mkF m 4 #[iv 1] [(.int (2 : Int32))])) rfl (hb hby d17_4) rfl (by decide) (cap := 2) (by decide) (by decide) (by decide) (by decide)
 obtain ⟨b2, g2⟩ : ∃ z, z = h0.size := ⟨_, rfl⟩
 rw [← g2] at A2 st2
 have g_b2 : n0 ≤ b2 := Nat.le_trans Z0 (Nat.le_of_eq g2.symm)
 have sz_b2 : h0.size ≤ b2 := Nat.le_trans kp0.1 (Nat.le_of_eq g2.symm)
 have z3 : n0 ≤ h2.size := Nat.le_trans Z0 E2.1
 have kp4 : Keep h0 h2 [] := kp0.ext E2
 have fa5 : Arv Z h2 b2 k2 .byte (2 : Int32) [(.int (0 : Int32)), (.int (0 : Int32))] (.int (0 : Int32)) := (Arv.new A2 (by decide)).pad (pad_rep [] (.int (0 : Int32)) 2)
 obtain ⟨fs, hr, hrun, hended, hW, hsame⟩ := X2.leave (v := some (.ref b2)) (fun h => by rw [Bd.returns] at h; cases h)
 refine ⟨_, _, G0 _ ?_, hrun, hended, _, _, rfl, ?_, ⟨_, rfl⟩, hW, hsame.mono (by decide) (by decide)⟩
 ·skip
  refine XS.iloadN X0.here hx rfl (hb hby d17_0) rfl ?_
  refine st1 _ ?_
  refine st2 _ ?_
  exact retOut X2 hx Bd.returns rfl (Or.inr (Or.inr (Or.inr (Or.inr ⟨rfl, rfl, rfl⟩)))) (hb hby d17_6) hr
 ·show QNB_1 Z  h0 n0 _ T2.heap _
  rw [e2]
  exact ⟨b2, k2, rfl, N1, kp4, g_b2, sz_b2, fa5⟩
theorem d16_0 : decode jdk_52_method_14_code 0 = .ok (.iload_n 2, 1) := by decide +kernel
theorem d16_1 : decode jdk_52_method_14_code 1 = .ok (.invokestatic 107, 3) := by decide +kernel
theorem pd_8 : parseMethodDescriptor "(I)[B" = some ⟨[.int], some (.array .byte)⟩ := by decide +kernel
theorem d16_4 : decode jdk_52_method_14_code 4 = .ok (.astore_n 3, 1) := by decide +kernel
theorem d16_5 : decode jdk_52_method_14_code 5 = .ok (.iconst 0, 1) := by decide +kernel
theorem d16_6 : decode jdk_52_method_14_code 6 = .ok (.istore 4, 2) := by decide +kernel
theorem d16_8 : decode jdk_52_method_14_code 8 = .ok (.iload 4, 2) := by decide +kernel
theorem d16_10 : decode jdk_52_method_14_code 10 = .ok (.iload_n 2, 1) := by decide +kernel
theorem d16_11 : decode jdk_52_method_14_code 11 = .ok (.if_icmp .ge 21, 3) := by decide +kernel
theorem d16_14 : decode jdk_52_method_14_code 14 = .ok (.aload_n 3, 1) := by decide +kernel
theorem d16_15 : decode jdk_52_method_14_code 15 = .ok (.iload 4, 2) := by decide +kernel
theorem d16_17 : decode jdk_52_method_14_code 17 = .ok (.aload_n 0, 1) := by decide +kernel
theorem d16_18 : decode jdk_52_method_14_code 18 = .ok (.iload_n 1, 1) := by decide +kernel
theorem d16_19 : decode jdk_52_method_14_code 19 = .ok (.caload, 1) := by decide +kernel
theorem d16_20 : decode jdk_52_method_14_code 20 = .ok (.invokestatic 111, 3) := by decide +kernel
theorem pd_9 : parseMethodDescriptor "([BII)V" = some ⟨[(.array .byte), .int, .int], none⟩ := by decide +kernel
theorem d16_23 : decode jdk_52_method_14_code 23 = .ok (.iinc 1 1, 3) := by decide +kernel
theorem d16_26 : decode jdk_52_method_14_code 26 = .ok (.iinc 4 1, 3) := by decide +kernel
theorem d16_29 : decode jdk_52_method_14_code 29 = .ok (.goto (-21), 3) := by decide +kernel
theorem d16_32 : decode jdk_52_method_14_code 32 = .ok (.aload_n 3, 1) := by decide +kernel
theorem d16_33 : decode jdk_52_method_14_code 33 = .ok (.areturn, 1) := by decide +kernel
def QTB_1 (Z : State) (r0 : Addr) (c0 : Int32) (ks : ClassId) (cst : Int32) (fv : Value) (h0 : Heap) (n0 : Nat) (v : Option Value) (h : Heap) (L : List Loc) : Prop := ∃ (b : Addr) (k : ClassId), v = some (.ref b) ∧ Fr n0 L ∧ Keep h0 h [] ∧ n0 ≤ b ∧ h0.size ≤ b ∧ Arv Z h b k .byte (2 : Int32) [(.int (nar .byte ((c0 >>> ((0 : Int32) &&& 31)).toInt8.toInt32))), (.int (nar .byte ((c0 >>> ((8 : Int32) &&& 31)).toInt8.toInt32)))] (.int (0 : Int32))
theorem ef_rmTB_1 (m : MethodId) (x0 : Addr) (x1 : Int32) (x2 : Int32) : entryFrame m #[(.ref x0), (.int x1), (.int x2)] 5 = mkF m 0 #[.val (.ref x0), .val (.int x1), .val (.int x2), .unset, .unset] [] := by first | (simp [entryFrame, mkF, argsToLocals, Value.category]; done) | rfl
set_option maxRecDepth 65536 in
set_option maxHeartbeats 40000000 in
theorem rmTB_1 (l : Launch) (Z : State) (a0 : Array Value) (hw : ∀ d ∈ tables_1, d.before a0 Z = true) (ws : List Jvm.Cond) (r0 : Addr) (c0 : Int32) (ks : ClassId) (cst : Int32) (fv : Value) (h0 : Heap) (n0 : Nat) (Z0 : n0 ≤ h0.size) (Vs : Arv Z h0 r0 ks .char (1 : Int32) [(.int c0)] (.int (0 : Int32))) (O0 : Old Z n0 h0) (SS : Sts Z cst fv) :
  MetFree l (⟨"java/lang/StringUTF16", "toBytes", "([CII)[B"⟩ : MethodName) (head1 (Jvm.Cond.code (⟨"java/lang/StringUTF16", "toBytes", "([CII)[B"⟩ : MethodName) jdk_52_method_14_code 5 (some (.array .byte)) :: ws) ({ frames := 2, cells := 1, slots := 2, locals := 24 } : Room)) (fun a U => a = #[(.ref r0), (.int (0 : Int32)), (.int (1 : Int32))] ∧ Z.Warmed39 U.vm ∧ U.heap = h0) (fun _ _ _ _ _ => True) (fun _ U o U' => ∃ v L, o = .returned v ∧ QTB_1 Z r0 c0 ks cst fv h0 n0 v U'.heap L ∧ FrameEnd U o U' L ({ frames := 2, cells := 1, slots := 2, locals := 24 } : Room).cells ({ frames := 2, cells := 1, slots := 2, locals := 24 } : Room).slots) := by
 refine MetFree.of_bodySF (plainFor_of_name pnc_java_lang_StringUTF16) hisR ?_
 intro p e s m args below meth c s₁ Bd hml0 hP hK
 obtain ⟨rfl, hZ, hh⟩ := hP
 have hx := Bd.exec
 have hby := Bd.bytes
 have hml : c.maxLocals = 5 := hml0
 have hown : s.vm.findClass "java/lang/StringUTF16" = some m.cls := findClass_of_methodNamed Bd.named
 have hnm := (name_of_methodNamed Bd.named Bd.method).1
 have X0 : Stand p l e ({ frames := 2, cells := 1, slots := 2, locals := 24 } : Room) s m #[(.ref r0), (.int (0 : Int32)), (.int (1 : Int32))] below meth c s₁ [] 0 0 := Stand.of_body Bd
 have e0 : s₁.heap = h0 := by rw [← hh, Bd.state]; rfl
 have N0 := Fr.nil n0
 have kp0 : Keep h0 h0 [] := Keep.refl _ _
 have G0 : ∀ t, Steps p.tables e below (s₁.setTop (mkF m 0 #[rv r0, iv 0, iv 1, .unset, .unset] [])) t → Steps p.tables e below (s₁.setTop (entryFrame m #[(.ref r0), (.int (0 : Int32)), (.int (1 : Int32))] 5)) t := fun t k => castTop (ef_rmTB_1 m r0 (0 : Int32) (1 : Int32)) k
 obtain ⟨_, _, ⟨T1, L1, k1, n1⟩, -, X1, ⟨Lc1, hQ1, l1, y1, z1⟩, st1⟩ := Jvm.LawKit.callS X0 hx (y := (⟨"java/lang/StringUTF16", "newBytesFor", "(I)[B"⟩ : MethodName)) hown (mvT hZ (hq hw 76 rfl)) (mvT hZ (hq hw 77 rfl)) (mvT hZ (hq hw 17 rfl)) (mvT hZ (hq hw 78 rfl)) (by decide) (backOf (W := 0) (rmNB_1 l Z a0 hw []   h0 n0 Z0 ) hZ (hq hw 78 rfl) (hq hw 17 rfl) (by decide) (by decide)) (g := (mkF m 1 #[rv r0, iv 0, iv 1, .unset, .unset] [(.int (1 : Int32))])) rfl (by rw [hml]; rfl) (argsL := [(.int (1 : Int32))]) (rest := []) (lenOf pd_8 rfl) rfl (by show 2 * 0 + _ ≤ _; exact Nat.le_of_eq rfl) (hb hby d16_1) (fun _ _ => ⟨rfl, e0, (by decide : 0 + 1 ≤ _), (by decide : 0 + 2 ≤ _)⟩)
 dsimp only [Pt.U, Pt.locs, Pt.cells, Pt.slots] at X1 l1 y1 z1 st1 hQ1
 subst l1 y1 z1
 obtain ⟨b1, kb1, rfl, N1q, K1, g_b1, sz1, V1⟩ := hQ1
 have N1 := Fr.app N0 N1q
 have szk1 : h0.size ≤ b1 := Nat.le_trans kp0.1 sz1
 have ne_r0_b1 : r0 ≠ b1 := Nat.ne_of_lt (Nat.lt_of_lt_of_le Vs.lt sz1)
 have fa2 := Vs.keep K1 nin0
 have fa3 := O0.keep K1 all0
 have z4 : n0 ≤ T1.heap.size := Nat.le_trans Z0 K1.1
 have kp5 : Keep h0 T1.heap [] := kp0.trans K1 all0
 have G6 : ∀ t, Steps p.tables e below (T1.setTop (mkF m 11 #[rv r0, iv 0, iv 1, rv b1, iv 0] [(.int (1 : Int32)), (.int (0 : Int32))])) t → Steps p.tables e below (s₁.setTop (entryFrame m #[(.ref r0), (.int (0 : Int32)), (.int (1 : Int32))] 5)) t := by
  intro t kt
  refine G0 _ ?_
  refine XS.iloadN X0.here hx rfl (hb hby d16_0) rfl ?_
  refine st1 _ ?_
  refine XS.astoreN X1.here hx rfl (hb hby d16_4) rfl rfl (l' := #[rv r0, iv 0, iv 1, rv b1, .unset]) rfl ?_
  refine XS.iconst X1.here hx rfl (hb hby d16_5) ?_
  refine XS.istore X1.here hx rfl (hb hby d16_6) rfl (l' := #[rv r0, iv 0, iv 1, rv b1, iv 0]) rfl ?_
  refine XS.iload X1.here hx rfl (hb hby d16_8) rfl ?_
  refine XS.iloadN X1.here hx rfl (hb hby d16_10) rfl ?_
  exact kt
 obtain ⟨cl7, Ar7, q7, S7, M7, H7, G7⟩ := id fa2
 have hin7 : ¬ ((0 : Int32) < 0 ∨ cl7.slots.size ≤ ((0 : Int32)).toNatClampNeg) := inb_of S7 ⟨by decide, by decide⟩
 have hat7 : cl7.slots[((0 : Int32)).toNatClampNeg]? = some (.int c0) := H7.at hin7 rfl
 obtain ⟨_, _, ⟨T8, L8, k8, n8⟩, -, X8, ⟨Lc8, hQ8, l8, y8, z8⟩, st8⟩ := Jvm.LawKit.callS X1 hx (y := (⟨"java/lang/StringUTF16", "putChar", "([BII)V"⟩ : MethodName)) hown (mvT hZ (hq hw 83 rfl)) (mvT hZ (hq hw 84 rfl)) (mvT hZ (hq hw 17 rfl)) (mvT hZ (hq hw 85 rfl)) (by decide) (backOf (W := 0) (rm19 l Z a0 hw [] b1 (0 : Int32) c0 kb1 (2 : Int32) [(.int (0 : Int32)), (.int (0 : Int32))] cst fv T1.heap n0 z4 V1 fa3 (by decide) (by decide) (Nat.le_of_ble_eq_true rfl) (Nat.le_of_ble_eq_true rfl) g_b1 SS) hZ (hq hw 85 rfl) (hq hw 17 rfl) (by decide) (by decide)) (g := (mkF m 20 #[rv r0, iv 0, iv 1, rv b1, iv 0] [(.int c0), (.int (0 : Int32)), (.ref b1)])) rfl (by rw [hml]; rfl) (argsL := [(.ref b1), (.int (0 : Int32)), (.int c0)]) (rest := []) (lenOf pd_9 rfl) rfl (by show 2 * 0 + _ ≤ _; exact Nat.le_of_eq rfl) (hb hby d16_20) (fun _ _ => ⟨rfl, rfl, (by decide : 1 + 0 ≤ _), (by decide : 2 + 0 ≤ _)⟩)
 dsimp only [Pt.U, Pt.locs, Pt.cells, Pt.slots] at X8 l8 y8 z8 st8 hQ8
 subst l8 y8 z8
 obtain ⟨rfl, N8q, K8, V8⟩ := hQ8
 have N8 := Fr.app N1 N8q
 have fa9 := fa2.keep K8 (ninS ne_r0_b1 nin0)
 have fa10 := fa3.keep K8 (allS g_b1 all0)
 have z11 : n0 ≤ T8.heap.size := Nat.le_trans z4 K8.1
 have kp12 : Keep h0 T8.heap [] := kp5.trans K8 (allS (Or.inr szk1) all0)
 have fa13 : Arv Z T8.heap b1 kb1 .byte (2 : Int32) [(.int (nar .byte ((c0 >>> ((0 : Int32) &&& 31)).toInt8.toInt32))), (.int (nar .byte ((c0 >>> ((8 : Int32) &&& 31)).toInt8.toInt32)))] (.int (0 : Int32)) := V8
 have G14 : ∀ t, Steps p.tables e below (T8.setTop (mkF m 11 #[rv r0, iv 1, iv 1, rv b1, iv 1] [(.int (1 : Int32)), (.int (1 : Int32))])) t → Steps p.tables e below (s₁.setTop (entryFrame m #[(.ref r0), (.int (0 : Int32)), (.int (1 : Int32))] 5)) t := by
  intro t kt
  refine G6 _ ?_
  refine XS.icmpNo X1.here hx rfl (hb hby d16_11) rfl (tlt (by decide)).2.1 ?_
  refine XS.aloadN X1.here hx rfl (hb hby d16_14) rfl rfl ?_
  refine XS.iload X1.here hx rfl (hb hby d16_15) rfl ?_
  refine XS.aloadN X1.here hx rfl (hb hby d16_17) rfl rfl ?_
  refine XS.iloadN X1.here hx rfl (hb hby d16_18) rfl ?_
  refine X1.caload hx (j := (0 : Int32)) (v := (.int c0)) Ar7.1 (State.isArrayOf_alike hZ.alike Ar7.2.1) Ar7.2.2 hin7 hat7 (g := (mkF m 19 #[rv r0, iv 0, iv 1, rv b1, iv 0] [(.int (0 : Int32)), (.ref r0), (.int (0 : Int32)), (.ref b1)])) rfl rfl (hb hby d16_19) _ ?_
  refine st8 _ ?_
  refine XS.iinc X8.here hx rfl (hb hby d16_23) rfl (l' := #[rv r0, iv 1, iv 1, rv b1, iv 0]) rfl ?_
  refine XS.iinc X8.here hx rfl (hb hby d16_26) rfl (l' := #[rv r0, iv 1, iv 1, rv b1, iv 1]) rfl ?_
  refine XS.goto X8.here hx rfl (pc0 := 29) (pc' := 8) rfl (hb hby d16_29) (by decide) (by decide) ?_
  refine XS.iload X8.here hx rfl (hb hby d16_8) rfl ?_
  refine XS.iloadN X8.here hx rfl (hb hby d16_10) rfl ?_
  exact kt
 obtain ⟨fs, hr, hrun, hended, hW, hsame⟩ := X8.leave (v := some (.ref b1)) (fun h => by rw [Bd.returns] at h; cases h)
 refine ⟨_, _, G14 _ ?_, hrun, hended, _, _, rfl, ?_, ⟨_, rfl⟩, hW, hsame.mono (by decide) (by decide)⟩
 ·skip
  refine XS.icmpYes X8.here hx rfl (pc0 := 11) (pc' := 32) rfl (hb hby d16_11) rfl (flt (by decide)).2.1 (by decide) (by decide) ?_
  refine XS.aloadN X8.here hx rfl (hb hby d16_32) rfl rfl ?_
  show Steps p.tables e below (T8.setTop (mkF m 33 #[rv r0, iv 1, iv 1, rv b1, iv 1] [(.ref b1)])) _
  exact retOut X8 hx Bd.returns rfl (Or.inr (Or.inr (Or.inr (Or.inr ⟨rfl, rfl, rfl⟩)))) (hb hby d16_33) hr
 ·show QTB_1 Z r0 c0 ks cst fv h0 n0 _ T8.heap _
  exact ⟨b1, kb1, rfl, N8, kp12, g_b1, szk1, fa13⟩
theorem d4_0 : decode jdk_52_method_16_code 0 = .ok (.iload_n 2, 1) := by decide +kernel
theorem d4_1 : decode jdk_52_method_16_code 1 = .ok (.newarray .byte, 2) := by decide +kernel
theorem d4_3 : decode jdk_52_method_16_code 3 = .ok (.astore_n 3, 1) := by decide +kernel
theorem d4_4 : decode jdk_52_method_16_code 4 = .ok (.aload_n 0, 1) := by decide +kernel
theorem d4_5 : decode jdk_52_method_16_code 5 = .ok (.iload_n 1, 1) := by decide +kernel
theorem d4_6 : decode jdk_52_method_16_code 6 = .ok (.aload_n 3, 1) := by decide +kernel
theorem d4_7 : decode jdk_52_method_16_code 7 = .ok (.iconst 0, 1) := by decide +kernel
theorem d4_8 : decode jdk_52_method_16_code 8 = .ok (.iload_n 2, 1) := by decide +kernel
theorem d4_9 : decode jdk_52_method_16_code 9 = .ok (.invokestatic 115, 3) := by decide +kernel
theorem pd_10 : parseMethodDescriptor "([CI[BII)I" = some ⟨[(.array .char), .int, (.array .byte), .int, .int], some .int⟩ := by decide +kernel
theorem d4_12 : decode jdk_52_method_16_code 12 = .ok (.istore 4, 2) := by decide +kernel
theorem d4_14 : decode jdk_52_method_16_code 14 = .ok (.iload 4, 2) := by decide +kernel
theorem d4_16 : decode jdk_52_method_16_code 16 = .ok (.iload_n 2, 1) := by decide +kernel
theorem d4_17 : decode jdk_52_method_16_code 17 = .ok (.if_icmp .eq 40, 3) := by decide +kernel
theorem d4_20 : decode jdk_52_method_16_code 20 = .ok (.aload_n 0, 1) := by decide +kernel
theorem d4_21 : decode jdk_52_method_16_code 21 = .ok (.iload_n 1, 1) := by decide +kernel
theorem d4_22 : decode jdk_52_method_16_code 22 = .ok (.iload_n 2, 1) := by decide +kernel
theorem d4_23 : decode jdk_52_method_16_code 23 = .ok (.invokestatic 119, 3) := by decide +kernel
theorem pd_11 : parseMethodDescriptor "([CII)[B" = some ⟨[(.array .char), .int, .int], some (.array .byte)⟩ := by decide +kernel
theorem d4_26 : decode jdk_52_method_16_code 26 = .ok (.astore 5, 2) := by decide +kernel
theorem d4_28 : decode jdk_52_method_16_code 28 = .ok (.aload 5, 2) := by decide +kernel
theorem d4_30 : decode jdk_52_method_16_code 30 = .ok (.iload 4, 2) := by decide +kernel
theorem d4_32 : decode jdk_52_method_16_code 32 = .ok (.invokestatic 71, 3) := by decide +kernel
theorem d4_35 : decode jdk_52_method_16_code 35 = .ok (.sipush 255, 3) := by decide +kernel
theorem d4_38 : decode jdk_52_method_16_code 38 = .ok (.if_icmp .gt 16, 3) := by decide +kernel
theorem d4_54 : decode jdk_52_method_16_code 54 = .ok (.aload 5, 2) := by decide +kernel
theorem d4_56 : decode jdk_52_method_16_code 56 = .ok (.areturn, 1) := by decide +kernel
theorem d4_57 : decode jdk_52_method_16_code 57 = .ok (.aload_n 3, 1) := by decide +kernel
theorem d4_58 : decode jdk_52_method_16_code 58 = .ok (.areturn, 1) := by decide +kernel
def QC3_1 (Z : State) (r0 : Addr) (c0 : Int32) (ks : ClassId) (cst : Int32) (fv : Value) (h0 : Heap) (n0 : Nat) (v : Option Value) (h : Heap) (L : List Loc) : Prop := (∃ (b : Addr) (k : ClassId), v = some (.ref b) ∧ Fr n0 L ∧ Keep h0 h [] ∧ n0 ≤ b ∧ h0.size ≤ b ∧ (¬ ((255 : Int32) < c0)) ∧ Arv Z h b k .byte (1 : Int32) [(.int (nar .byte (c0.toInt8.toInt32)))] (.int (0 : Int32))) ∨ (∃ (b : Addr) (k : ClassId), v = some (.ref b) ∧ Fr n0 L ∧ Keep h0 h [] ∧ n0 ≤ b ∧ h0.size ≤ b ∧ ((255 : Int32) < c0) ∧ Arv Z h b k .byte (2 : Int32) [(.int (nar .byte ((c0 >>> ((0 : Int32) &&& 31)).toInt8.toInt32))), (.int (nar .byte ((c0 >>> ((8 : Int32) &&& 31)).toInt8.toInt32)))] (.int (0 : Int32)))
theorem ef_rmC3_1 (m : MethodId) (x0 : Addr) (x1 : Int32) (x2 : Int32) : entryFrame m #[(.ref x0), (.int x1), (.int x2)] 6 = mkF m 0 #[.val (.ref x0), .val (.int x1), .val (.int x2), .unset, .unset, .unset] [] := by first | (simp [entryFrame, mkF, argsToLocals, Value.category]; done) | rfl
set_option maxRecDepth 65536 in
set_option maxHeartbeats 40000000 in
theorem rmC3_1 (l : Launch) (Z : State) (a0 : Array Value) (hw : ∀ d ∈ tables_1, d.before a0 Z = true) (ws : List Jvm.Cond) (r0 : Addr) (c0 : Int32) (ks : ClassId) (cst : Int32) (fv : Value) (h0 : Heap) (n0 : Nat) (Z0 : n0 ≤ h0.size) (Vs : Arv Z h0 r0 ks .char (1 : Int32) [(.int c0)] (.int (0 : Int32))) (O0 : Old Z n0 h0) (hb0 : 0 ≤ c0.toInt ∧ c0.toInt ≤ 65535) (SS : Sts Z cst fv) :
  MetFree l (⟨"java/lang/StringUTF16", "compress", "([CII)[B"⟩ : MethodName) (head1 (Jvm.Cond.code (⟨"java/lang/StringUTF16", "compress", "([CII)[B"⟩ : MethodName) jdk_52_method_16_code 6 (some (.array .byte)) :: ws) ({ frames := 3, cells := 2, slots := 3, locals := 40 } : Room)) (fun a U => a = #[(.ref r0), (.int (0 : Int32)), (.int (1 : Int32))] ∧ Z.Warmed39 U.vm ∧ U.heap = h0) (fun _ _ _ _ _ => True) (fun _ U o U' => ∃ v L, o = .returned v ∧ QC3_1 Z r0 c0 ks cst fv h0 n0 v U'.heap L ∧ FrameEnd U o U' L ({ frames := 3, cells := 2, slots := 3, locals := 40 } : Room).cells ({ frames := 3, cells := 2, slots := 3, locals := 40 } : Room).slots) := by
 refine MetFree.of_bodySF (plainFor_of_name pnc_java_lang_StringUTF16) hisR ?_
 intro p e s m args below meth c s₁ Bd hml0 hP hK
 obtain ⟨rfl, hZ, hh⟩ := hP
 have hx := Bd.exec
 have hby := Bd.bytes
 have hml : c.maxLocals = 6 := hml0
 have hown : s.vm.findClass "java/lang/StringUTF16" = some m.cls := findClass_of_methodNamed Bd.named
 have hnm := (name_of_methodNamed Bd.named Bd.method).1
 have X0 : Stand p l e ({ frames := 3, cells := 2, slots := 3, locals := 40 } : Room) s m #[(.ref r0), (.int (0 : Int32)), (.int (1 : Int32))] below meth c s₁ [] 0 0 := Stand.of_body Bd
 have e0 : s₁.heap = h0 := by rw [← hh, Bd.state]; rfl
 have N0 := Fr.nil n0
 have kp0 : Keep h0 h0 [] := Keep.refl _ _
 have G0 : ∀ t, Steps p.tables e below (s₁.setTop (mkF m 0 #[rv r0, iv 0, iv 1, .unset, .unset, .unset] [])) t → Steps p.tables e below (s₁.setTop (entryFrame m #[(.ref r0), (.int (0 : Int32)), (.int (1 : Int32))] 6)) t := fun t k => castTop (ef_rmC3_1 m r0 (0 : Int32) (1 : Int32)) k
 obtain ⟨T1, h1, k1, X1, e1, E1, A1, st1⟩ := newP X0 hx hZ (hq hw 19 rfl) e0 (g := (mkF m 1 #[rv r0, iv 0, iv 1, .unset, .unset, .unset] [(.int (1 : Int32))])) rfl (hb hby d4_1) rfl (by decide) (cap := 1) (by decide) (by decide) (by decide) (by decide)
 obtain ⟨b1, g1⟩ : ∃ z, z = h0.size := ⟨_, rfl⟩
 rw [← g1] at A1 st1
 have g_b1 : n0 ≤ b1 := Nat.le_trans Z0 (Nat.le_of_eq g1.symm)
 have sz_b1 : h0.size ≤ b1 := Nat.le_trans kp0.1 (Nat.le_of_eq g1.symm)
 have ne_r0_b1 : r0 ≠ b1 := Nat.ne_of_lt (Nat.lt_of_lt_of_le Vs.lt (Nat.le_of_eq g1.symm))
 have fa2 := Vs.ext E1
 have fa3 := O0.ext E1
 have z4 : n0 ≤ h1.size := Nat.le_trans Z0 E1.1
 have kp5 : Keep h0 h1 [] := kp0.ext E1
 have fa6 : Arv Z h1 b1 k1 .byte (1 : Int32) [(.int (0 : Int32))] (.int (0 : Int32)) := (Arv.new A1 (by decide)).pad (pad_rep [] (.int (0 : Int32)) 1)
 obtain ⟨_, _, ⟨T7, L7, k7, n7⟩, -, X7, ⟨Lc7, hQ7, l7, y7, z7⟩, st7⟩ := Jvm.LawKit.callS X1 hx (y := (⟨"java/lang/StringUTF16", "compress", "([CI[BII)I"⟩ : MethodName)) hown (mvT hZ (hq hw 20 rfl)) (mvT hZ (hq hw 21 rfl)) (mvT hZ (hq hw 17 rfl)) (mvT hZ (hq hw 22 rfl)) (by decide) (backOf (W := 0) (rmC5_1 l Z a0 hw [] r0 b1 c0 ks k1 h1 n0 z4 fa2 fa6 ne_r0_b1 g_b1) hZ (hq hw 22 rfl) (hq hw 17 rfl) (by decide) (by decide)) (g := (mkF m 9 #[rv r0, iv 0, iv 1, rv b1, .unset, .unset] [(.int (1 : Int32)), (.int (0 : Int32)), (.ref b1), (.int (0 : Int32)), (.ref r0)])) rfl (by rw [hml]; rfl) (argsL := [(.ref r0), (.int (0 : Int32)), (.ref b1), (.int (0 : Int32)), (.int (1 : Int32))]) (rest := []) (lenOf pd_10 rfl) rfl (by show 2 * 0 + _ ≤ _; exact Nat.le_of_eq rfl) (hb hby d4_9) (fun _ _ => ⟨rfl, e1, (by decide : 1 + 0 ≤ _), (by decide : 1 + 0 ≤ _)⟩)
 dsimp only [Pt.U, Pt.locs, Pt.cells, Pt.slots] at X7 l7 y7 z7 st7 hQ7
 subst l7 y7 z7
 rcases hQ7 with ⟨rfl, N7q, K7, hq7_0⟩ | ⟨rfl, N7q, K7, hq7_0, V7⟩
 ·skip
  have N7 := Fr.app N0 N7q
  have fa8 := fa2.keep K7 (ninS ne_r0_b1 nin0)
  have fa9 := fa3.keep K7 (allS g_b1 all0)
  have z10 : n0 ≤ T7.heap.size := Nat.le_trans z4 K7.1
  have kp11 : Keep h0 T7.heap [] := kp5.trans K7 (allS (Or.inr sz_b1) all0)
  have G12 : ∀ t, Steps p.tables e below (T7.setTop (mkF m 17 #[rv r0, iv 0, iv 1, rv b1, iv 0, .unset] [(.int (1 : Int32)), (.int (0 : Int32))])) t → Steps p.tables e below (s₁.setTop (entryFrame m #[(.ref r0), (.int (0 : Int32)), (.int (1 : Int32))] 6)) t := by
   intro t kt
   refine G0 _ ?_
   refine XS.iloadN X0.here hx rfl (hb hby d4_0) rfl ?_
   refine st1 _ ?_
   refine XS.astoreN X1.here hx rfl (hb hby d4_3) rfl rfl (l' := #[rv r0, iv 0, iv 1, rv b1, .unset, .unset]) rfl ?_
   refine XS.aloadN X1.here hx rfl (hb hby d4_4) rfl rfl ?_
   refine XS.iloadN X1.here hx rfl (hb hby d4_5) rfl ?_
   refine XS.aloadN X1.here hx rfl (hb hby d4_6) rfl rfl ?_
   refine XS.iconst X1.here hx rfl (hb hby d4_7) ?_
   refine XS.iloadN X1.here hx rfl (hb hby d4_8) rfl ?_
   refine st7 _ ?_
   refine XS.istore X7.here hx rfl (hb hby d4_12) rfl (l' := #[rv r0, iv 0, iv 1, rv b1, iv 0, .unset]) rfl ?_
   refine XS.iload X7.here hx rfl (hb hby d4_14) rfl ?_
   refine XS.iloadN X7.here hx rfl (hb hby d4_16) rfl ?_
   exact kt
  obtain ⟨_, _, ⟨T13, L13, k13, n13⟩, -, X13, ⟨Lc13, hQ13, l13, y13, z13⟩, st13⟩ := Jvm.LawKit.callS X7 hx (y := (⟨"java/lang/StringUTF16", "toBytes", "([CII)[B"⟩ : MethodName)) hown (mvT hZ (hq hw 73 rfl)) (mvT hZ (hq hw 74 rfl)) (mvT hZ (hq hw 17 rfl)) (mvT hZ (hq hw 75 rfl)) (by decide) (backOf (W := 0) (rmTB_1 l Z a0 hw [] r0 c0 ks cst fv T7.heap n0 z10 fa8 fa9 SS) hZ (hq hw 75 rfl) (hq hw 17 rfl) (by decide) (by decide)) (g := (mkF m 23 #[rv r0, iv 0, iv 1, rv b1, iv 0, .unset] [(.int (1 : Int32)), (.int (0 : Int32)), (.ref r0)])) rfl (by rw [hml]; rfl) (argsL := [(.ref r0), (.int (0 : Int32)), (.int (1 : Int32))]) (rest := []) (lenOf pd_11 rfl) rfl (by show 2 * 0 + _ ≤ _; exact Nat.le_of_eq rfl) (hb hby d4_23) (fun _ _ => ⟨rfl, rfl, (by decide : 1 + 1 ≤ _), (by decide : 1 + 2 ≤ _)⟩)
  dsimp only [Pt.U, Pt.locs, Pt.cells, Pt.slots] at X13 l13 y13 z13 st13 hQ13
  subst l13 y13 z13
  obtain ⟨b13, kb13, rfl, N13q, K13, g_b13, sz13, V13⟩ := hQ13
  have N13 := Fr.app N7 N13q
  have szk13 : h0.size ≤ b13 := Nat.le_trans kp11.1 sz13
  have ne_r0_b13 : r0 ≠ b13 := Nat.ne_of_lt (Nat.lt_of_lt_of_le fa8.lt sz13)
  have fa14 := fa8.keep K13 nin0
  have fa15 := fa9.keep K13 all0
  have z16 : n0 ≤ T13.heap.size := Nat.le_trans z10 K13.1
  have kp17 : Keep h0 T13.heap [] := kp11.trans K13 all0
  obtain ⟨_, _, ⟨T18, L18, k18, n18⟩, -, X18, ⟨Lc18, hQ18, l18, y18, z18⟩, st18⟩ := Jvm.LawKit.callS X13 hx (y := (⟨"java/lang/StringUTF16", "getChar", "([BI)C"⟩ : MethodName)) hown (mvT hZ (hq hw 89 rfl)) (mvT hZ (hq hw 90 rfl)) (mvT hZ (hq hw 17 rfl)) (mvT hZ (hq hw 91 rfl)) (by decide) (backOf (W := 0) (rm20 l Z a0 hw [] b13 (0 : Int32) kb13 (2 : Int32) [(.int (nar .byte ((c0 >>> ((0 : Int32) &&& 31)).toInt8.toInt32))), (.int (nar .byte ((c0 >>> ((8 : Int32) &&& 31)).toInt8.toInt32)))] (nar .byte ((c0 >>> ((0 : Int32) &&& 31)).toInt8.toInt32)) (nar .byte ((c0 >>> ((8 : Int32) &&& 31)).toInt8.toInt32)) cst fv T13.heap n0 z16 V13 fa15 (by decide) (by decide) rfl rfl SS) hZ (hq hw 91 rfl) (hq hw 17 rfl) (by decide) (by decide)) (g := (mkF m 32 #[rv r0, iv 0, iv 1, rv b1, iv 0, rv b13] [(.int (0 : Int32)), (.ref b13)])) rfl (by rw [hml]; rfl) (argsL := [(.ref b13), (.int (0 : Int32))]) (rest := []) (lenOf pd_5 rfl) rfl (by show 2 * 0 + _ ≤ _; exact Nat.le_of_eq rfl) (hb hby d4_32) (fun _ _ => ⟨rfl, rfl, (by decide : 2 + 0 ≤ _), (by decide : 3 + 0 ≤ _)⟩)
  dsimp only [Pt.U, Pt.locs, Pt.cells, Pt.slots] at X18 l18 y18 z18 st18 hQ18
  subst l18 y18 z18
  obtain ⟨rfl, N18q, eh18⟩ := hQ18
  have N18 := Fr.app N13 N18q
  have G19 : ∀ t, Steps p.tables e below (T18.setTop (mkF m 38 #[rv r0, iv 0, iv 1, rv b1, iv 0, rv b13] [(.int (255 : Int32)), (.int (fget (nar .byte ((c0 >>> ((0 : Int32) &&& 31)).toInt8.toInt32)) (nar .byte ((c0 >>> ((8 : Int32) &&& 31)).toInt8.toInt32))))])) t → Steps p.tables e below (s₁.setTop (entryFrame m #[(.ref r0), (.int (0 : Int32)), (.int (1 : Int32))] 6)) t := by
   intro t kt
   refine G12 _ ?_
   refine XS.icmpNo X7.here hx rfl (hb hby d4_17) rfl (feq (by decide)).1 ?_
   refine XS.aloadN X7.here hx rfl (hb hby d4_20) rfl rfl ?_
   refine XS.iloadN X7.here hx rfl (hb hby d4_21) rfl ?_
   refine XS.iloadN X7.here hx rfl (hb hby d4_22) rfl ?_
   refine st13 _ ?_
   refine XS.astore X13.here hx rfl (hb hby d4_26) rfl rfl (l' := #[rv r0, iv 0, iv 1, rv b1, iv 0, rv b13]) rfl ?_
   refine XS.aload X13.here hx rfl (hb hby d4_28) rfl rfl ?_
   refine XS.iload X13.here hx rfl (hb hby d4_30) rfl ?_
   show Steps p.tables e below (T13.setTop (mkF m 32 #[rv r0, iv 0, iv 1, rv b1, iv 0, rv b13] [(.int (0 : Int32)), (.ref b13)])) _
   refine st18 _ ?_
   refine XS.sipush X18.here hx rfl (hb hby d4_35) ?_
   exact kt
  have hc38_20 : (255 : Int32) < (fget (nar .byte ((c0 >>> ((0 : Int32) &&& 31)).toInt8.toInt32)) (nar .byte ((c0 >>> ((8 : Int32) &&& 31)).toInt8.toInt32))) := by rw [own_u16 c0 hb0]; exact hq7_0
  obtain ⟨fs, hr, hrun, hended, hW, hsame⟩ := X18.leave (v := some (.ref b13)) (fun h => by rw [Bd.returns] at h; cases h)
  refine ⟨_, _, G19 _ ?_, hrun, hended, _, _, rfl, ?_, ⟨_, rfl⟩, hW, hsame.mono (by decide) (by decide)⟩
  ·skip
   refine XS.icmpYes X18.here hx rfl (pc0 := 38) (pc' := 54) rfl (hb hby d4_38) rfl (tlt hc38_20).2.2.1 (by decide) (by decide) ?_
   refine XS.aload X18.here hx rfl (hb hby d4_54) rfl rfl ?_
   exact retOut X18 hx Bd.returns rfl (Or.inr (Or.inr (Or.inr (Or.inr ⟨rfl, rfl, rfl⟩)))) (hb hby d4_56) hr
  ·show QC3_1 Z r0 c0 ks cst fv h0 n0 _ T18.heap _
   rw [eh18]
   exact Or.inr ⟨b13, kb13, rfl, N18, kp17, g_b13, szk13, (hq7_0), V13⟩
 ·skip
  have N7 := Fr.app N0 N7q
  have fa21 := fa2.keep K7 (ninS ne_r0_b1 nin0)
  have fa22 := fa3.keep K7 (allS g_b1 all0)
  have z23 : n0 ≤ T7.heap.size := Nat.le_trans z4 K7.1
  have kp24 : Keep h0 T7.heap [] := kp5.trans K7 (allS (Or.inr sz_b1) all0)
  have G25 : ∀ t, Steps p.tables e below (T7.setTop (mkF m 17 #[rv r0, iv 0, iv 1, rv b1, iv 1, .unset] [(.int (1 : Int32)), (.int (1 : Int32))])) t → Steps p.tables e below (s₁.setTop (entryFrame m #[(.ref r0), (.int (0 : Int32)), (.int (1 : Int32))] 6)) t := by
   intro t kt
   refine G0 _ ?_
   refine XS.iloadN X0.here hx rfl (hb hby d4_0) rfl ?_
   refine st1 _ ?_
   refine XS.astoreN X1.here hx rfl (hb hby d4_3) rfl rfl (l' := #[rv r0, iv 0, iv 1, rv b1, .unset, .unset]) rfl ?_
   refine XS.aloadN X1.here hx rfl (hb hby d4_4) rfl rfl ?_
   refine XS.iloadN X1.here hx rfl (hb hby d4_5) rfl ?_
   refine XS.aloadN X1.here hx rfl (hb hby d4_6) rfl rfl ?_
   refine XS.iconst X1.here hx rfl (hb hby d4_7) ?_
   refine XS.iloadN X1.here hx rfl (hb hby d4_8) rfl ?_
   refine st7 _ ?_
   refine XS.istore X7.here hx rfl (hb hby d4_12) rfl (l' := #[rv r0, iv 0, iv 1, rv b1, iv 1, .unset]) rfl ?_
   refine XS.iload X7.here hx rfl (hb hby d4_14) rfl ?_
   refine XS.iloadN X7.here hx rfl (hb hby d4_16) rfl ?_
   exact kt
  obtain ⟨fs, hr, hrun, hended, hW, hsame⟩ := X7.leave (v := some (.ref b1)) (fun h => by rw [Bd.returns] at h; cases h)
  refine ⟨_, _, G25 _ ?_, hrun, hended, _, _, rfl, ?_, ⟨_, rfl⟩, hW, hsame.mono (by decide) (by decide)⟩
  ·skip
   refine XS.icmpYes X7.here hx rfl (pc0 := 17) (pc' := 57) rfl (hb hby d4_17) rfl (teq (by decide)).1 (by decide) (by decide) ?_
   refine XS.aloadN X7.here hx rfl (hb hby d4_57) rfl rfl ?_
   exact retOut X7 hx Bd.returns rfl (Or.inr (Or.inr (Or.inr (Or.inr ⟨rfl, rfl, rfl⟩)))) (hb hby d4_58) hr
  ·show QC3_1 Z r0 c0 ks cst fv h0 n0 _ T7.heap _
   exact Or.inl ⟨b1, k1, rfl, N7, kp24, g_b1, sz_b1, hq7_0, V7⟩
theorem d6_0 : decode jdk_52_method_15_code 0 = .ok (.iload_n 1, 1) := by decide +kernel
theorem d6_1 : decode jdk_52_method_15_code 1 = .ok (.aload_n 0, 1) := by decide +kernel
theorem d6_2 : decode jdk_52_method_15_code 2 = .ok (.arraylength, 1) := by decide +kernel
theorem d6_3 : decode jdk_52_method_15_code 3 = .ok (.isub, 1) := by decide +kernel
theorem d6_4 : decode jdk_52_method_15_code 4 = .ok (.bipush 31, 2) := by decide +kernel
theorem d6_6 : decode jdk_52_method_15_code 6 = .ok (.iushr, 1) := by decide +kernel
theorem d6_7 : decode jdk_52_method_15_code 7 = .ok (.i2b, 1) := by decide +kernel
theorem d6_8 : decode jdk_52_method_15_code 8 = .ok (.ireturn, 1) := by decide +kernel
def QCF_1_1 (Z : State) (r0 : Addr) (kk : ClassId) (vs : List Value) (h0 : Heap) (n0 : Nat) (v : Option Value) (h : Heap) (L : List Loc) : Prop := v = some (.int (0 : Int32)) ∧ Fr n0 L ∧ h = h0
theorem ef_rmCF_1_1 (m : MethodId) (x0 : Addr) (x1 : Int32) : entryFrame m #[(.ref x0), (.int x1)] 2 = mkF m 0 #[.val (.ref x0), .val (.int x1)] [] := by first | (simp [entryFrame, mkF, argsToLocals, Value.category]; done) | rfl
set_option maxRecDepth 65536 in
set_option maxHeartbeats 40000000 in
theorem rmCF_1_1 (l : Launch) (Z : State) (a0 : Array Value) (hw : ∀ d ∈ tables_1, d.before a0 Z = true) (ws : List Jvm.Cond) (r0 : Addr) (kk : ClassId) (vs : List Value) (h0 : Heap) (n0 : Nat) (Z0 : n0 ≤ h0.size) (V0 : Arv Z h0 r0 kk .byte (1 : Int32) vs (.int (0 : Int32))) :
  MetFree l (⟨"java/lang/StringUTF16", "coderFromArrayLen", "([BI)B"⟩ : MethodName) (head1 (Jvm.Cond.code (⟨"java/lang/StringUTF16", "coderFromArrayLen", "([BI)B"⟩ : MethodName) jdk_52_method_15_code 2 (some .byte) :: ws) ({ frames := 0, cells := 0, slots := 0, locals := 0 } : Room)) (fun a U => a = #[(.ref r0), (.int (1 : Int32))] ∧ Z.Warmed39 U.vm ∧ U.heap = h0) (fun _ _ _ _ _ => True) (fun _ U o U' => ∃ v L, o = .returned v ∧ QCF_1_1 Z r0 kk vs h0 n0 v U'.heap L ∧ FrameEnd U o U' L ({ frames := 0, cells := 0, slots := 0, locals := 0 } : Room).cells ({ frames := 0, cells := 0, slots := 0, locals := 0 } : Room).slots) := by
 refine MetFree.of_bodySF (plainFor_of_name pnc_java_lang_StringUTF16) hisR ?_
 intro p e s m args below meth c s₁ Bd hml0 hP hK
 obtain ⟨rfl, hZ, hh⟩ := hP
 have hx := Bd.exec
 have hby := Bd.bytes
 have hml : c.maxLocals = 2 := hml0
 have hown : s.vm.findClass "java/lang/StringUTF16" = some m.cls := findClass_of_methodNamed Bd.named
 have hnm := (name_of_methodNamed Bd.named Bd.method).1
 have X0 : Stand p l e ({ frames := 0, cells := 0, slots := 0, locals := 0 } : Room) s m #[(.ref r0), (.int (1 : Int32))] below meth c s₁ [] 0 0 := Stand.of_body Bd
 have e0 : s₁.heap = h0 := by rw [← hh, Bd.state]; rfl
 have N0 := Fr.nil n0
 have kp0 : Keep h0 h0 [] := Keep.refl _ _
 have G0 : ∀ t, Steps p.tables e below (s₁.setTop (mkF m 0 #[rv r0, iv 1] [])) t → Steps p.tables e below (s₁.setTop (entryFrame m #[(.ref r0), (.int (1 : Int32))] 2)) t := fun t k => castTop (ef_rmCF_1_1 m r0 (1 : Int32)) k
 obtain ⟨cl1, Ar1, q1, S1, M1, H1, G1⟩ := id V0
 obtain ⟨fs, hr, hrun, hended, hW, hsame⟩ := X0.leave (v := some (.int (0 : Int32))) (fun h => by rw [Bd.returns] at h; cases h)
 refine ⟨_, _, G0 _ ?_, hrun, hended, _, _, rfl, ?_, ⟨_, rfl⟩, hW, hsame.mono (by decide) (by decide)⟩
 ·skip
  refine XS.iloadN X0.here hx rfl (hb hby d6_0) rfl ?_
  refine XS.aloadN X0.here hx rfl (hb hby d6_1) rfl rfl ?_
  refine X0.arraylength hx (by rw [e0]; exact Ar1.1) (State.isArrayOf_alike hZ.alike Ar1.2.1) (g := (mkF m 2 #[rv r0, iv 1] [(.ref r0), (.int (1 : Int32))])) rfl rfl (hb hby d6_2) _ ?_
  rw [len_of S1 M1]
  refine XS.isub X0.here hx rfl (hb hby d6_3) rfl ?_
  refine XS.bipush X0.here hx rfl (hb hby d6_4) ?_
  refine XS.iushr X0.here hx rfl (hb hby d6_6) rfl ?_
  refine XS.i2b X0.here hx rfl (hb hby d6_7) rfl ?_
  exact retN X0 hx (t := .byte) Bd.returns (by simp) (hb hby d6_8) hr
 ·show QCF_1_1 Z r0 kk vs h0 n0 _ s₁.heap _
  rw [e0]
  exact ⟨rfl, N0, rfl⟩
def QCF_1_2 (Z : State) (r0 : Addr) (kk : ClassId) (vs : List Value) (h0 : Heap) (n0 : Nat) (v : Option Value) (h : Heap) (L : List Loc) : Prop := v = some (.int (1 : Int32)) ∧ Fr n0 L ∧ h = h0
theorem ef_rmCF_1_2 (m : MethodId) (x0 : Addr) (x1 : Int32) : entryFrame m #[(.ref x0), (.int x1)] 2 = mkF m 0 #[.val (.ref x0), .val (.int x1)] [] := by first | (simp [entryFrame, mkF, argsToLocals, Value.category]; done) | rfl
set_option maxRecDepth 65536 in
set_option maxHeartbeats 40000000 in
theorem rmCF_1_2 (l : Launch) (Z : State) (a0 : Array Value) (hw : ∀ d ∈ tables_1, d.before a0 Z = true) (ws : List Jvm.Cond) (r0 : Addr) (kk : ClassId) (vs : List Value) (h0 : Heap) (n0 : Nat) (Z0 : n0 ≤ h0.size) (V0 : Arv Z h0 r0 kk .byte (2 : Int32) vs (.int (0 : Int32))) :
  MetFree l (⟨"java/lang/StringUTF16", "coderFromArrayLen", "([BI)B"⟩ : MethodName) (head1 (Jvm.Cond.code (⟨"java/lang/StringUTF16", "coderFromArrayLen", "([BI)B"⟩ : MethodName) jdk_52_method_15_code 2 (some .byte) :: ws) ({ frames := 0, cells := 0, slots := 0, locals := 0 } : Room)) (fun a U => a = #[(.ref r0), (.int (1 : Int32))] ∧ Z.Warmed39 U.vm ∧ U.heap = h0) (fun _ _ _ _ _ => True) (fun _ U o U' => ∃ v L, o = .returned v ∧ QCF_1_2 Z r0 kk vs h0 n0 v U'.heap L ∧ FrameEnd U o U' L ({ frames := 0, cells := 0, slots := 0, locals := 0 } : Room).cells ({ frames := 0, cells := 0, slots := 0, locals := 0 } : Room).slots) := by
 refine MetFree.of_bodySF (plainFor_of_name pnc_java_lang_StringUTF16) hisR ?_
 intro p e s m args below meth c s₁ Bd hml0 hP hK
 obtain ⟨rfl, hZ, hh⟩ := hP
 have hx := Bd.exec
 have hby := Bd.bytes
 have hml : c.maxLocals = 2 := hml0
 have hown : s.vm.findClass "java/lang/StringUTF16" = some m.cls := findClass_of_methodNamed Bd.named
 have hnm := (name_of_methodNamed Bd.named Bd.method).1
 have X0 : Stand p l e ({ frames := 0, cells := 0, slots := 0, locals := 0 } : Room) s m #[(.ref r0), (.int (1 : Int32))] below meth c s₁ [] 0 0 := Stand.of_body Bd
 have e0 : s₁.heap = h0 := by rw [← hh, Bd.state]; rfl
 have N0 := Fr.nil n0
 have kp0 : Keep h0 h0 [] := Keep.refl _ _
 have G0 : ∀ t, Steps p.tables e below (s₁.setTop (mkF m 0 #[rv r0, iv 1] [])) t → Steps p.tables e below (s₁.setTop (entryFrame m #[(.ref r0), (.int (1 : Int32))] 2)) t := fun t k => castTop (ef_rmCF_1_2 m r0 (1 : Int32)) k
 obtain ⟨cl1, Ar1, q1, S1, M1, H1, G1⟩ := id V0
 obtain ⟨fs, hr, hrun, hended, hW, hsame⟩ := X0.leave (v := some (.int (1 : Int32))) (fun h => by rw [Bd.returns] at h; cases h)
 refine ⟨_, _, G0 _ ?_, hrun, hended, _, _, rfl, ?_, ⟨_, rfl⟩, hW, hsame.mono (by decide) (by decide)⟩
 ·skip
  refine XS.iloadN X0.here hx rfl (hb hby d6_0) rfl ?_
  refine XS.aloadN X0.here hx rfl (hb hby d6_1) rfl rfl ?_
  refine X0.arraylength hx (by rw [e0]; exact Ar1.1) (State.isArrayOf_alike hZ.alike Ar1.2.1) (g := (mkF m 2 #[rv r0, iv 1] [(.ref r0), (.int (1 : Int32))])) rfl rfl (hb hby d6_2) _ ?_
  rw [len_of S1 M1]
  refine XS.isub X0.here hx rfl (hb hby d6_3) rfl ?_
  refine XS.bipush X0.here hx rfl (hb hby d6_4) ?_
  refine XS.iushr X0.here hx rfl (hb hby d6_6) rfl ?_
  refine XS.i2b X0.here hx rfl (hb hby d6_7) rfl ?_
  exact retN X0 hx (t := .byte) Bd.returns (by simp) (hb hby d6_8) hr
 ·show QCF_1_2 Z r0 kk vs h0 n0 _ s₁.heap _
  rw [e0]
  exact ⟨rfl, N0, rfl⟩
theorem d2_0 : decode jdk_42_method_149_code 0 = .ok (.aload_n 0, 1) := by decide +kernel
theorem d2_1 : decode jdk_42_method_149_code 1 = .ok (.invokespecial 1, 3) := by decide +kernel
theorem d2_4 : decode jdk_42_method_149_code 4 = .ok (.iload_n 3, 1) := by decide +kernel
theorem d2_5 : decode jdk_42_method_149_code 5 = .ok (.ifCond .ne 22, 3) := by decide +kernel
theorem d2_27 : decode jdk_42_method_149_code 27 = .ok (.getstatic 38, 3) := by decide +kernel
theorem d2_30 : decode jdk_42_method_149_code 30 = .ok (.ifCond .eq 28, 3) := by decide +kernel
theorem d2_33 : decode jdk_42_method_149_code 33 = .ok (.aload_n 1, 1) := by decide +kernel
theorem d2_34 : decode jdk_42_method_149_code 34 = .ok (.iload_n 2, 1) := by decide +kernel
theorem d2_35 : decode jdk_42_method_149_code 35 = .ok (.iload_n 3, 1) := by decide +kernel
theorem d2_36 : decode jdk_42_method_149_code 36 = .ok (.invokestatic 177, 3) := by decide +kernel
theorem d2_39 : decode jdk_42_method_149_code 39 = .ok (.astore 5, 2) := by decide +kernel
theorem d2_41 : decode jdk_42_method_149_code 41 = .ok (.aload_n 0, 1) := by decide +kernel
theorem d2_42 : decode jdk_42_method_149_code 42 = .ok (.aload 5, 2) := by decide +kernel
theorem d2_44 : decode jdk_42_method_149_code 44 = .ok (.iload_n 3, 1) := by decide +kernel
theorem d2_45 : decode jdk_42_method_149_code 45 = .ok (.invokestatic 47, 3) := by decide +kernel
theorem pd_12 : parseMethodDescriptor "([BI)B" = some ⟨[(.array .byte), .int], some .byte⟩ := by decide +kernel
theorem d2_48 : decode jdk_42_method_149_code 48 = .ok (.putfield 15, 3) := by decide +kernel
theorem d2_51 : decode jdk_42_method_149_code 51 = .ok (.aload_n 0, 1) := by decide +kernel
theorem d2_52 : decode jdk_42_method_149_code 52 = .ok (.aload 5, 2) := by decide +kernel
theorem d2_54 : decode jdk_42_method_149_code 54 = .ok (.putfield 9, 3) := by decide +kernel
theorem d2_57 : decode jdk_42_method_149_code 57 = .ok (.return_, 1) := by decide +kernel
def QSE_1 (Z : State) (r0 : Addr) (r1 : Addr) (c0 : Int32) (ks : ClassId) (cst : Int32) (fv : Value) (h0 : Heap) (n0 : Nat) (v : Option Value) (h : Heap) (L : List Loc) : Prop := (v = none ∧ Fr n0 L ∧ Keep h0 h [r0] ∧ Exa Z h r0 "java/lang/String" ∧ (¬ ((255 : Int32) < c0)) ∧ Fld Z h r0 "java/lang/String" "coder" "B" (.int (0 : Int32)) ∧ ∃ (t : Addr) (k : ClassId), Fld Z h r0 "java/lang/String" "value" "[B" (.ref t) ∧ h0.size ≤ t ∧ n0 ≤ t ∧ Arv Z h t k .byte (1 : Int32) [(.int (nar .byte (c0.toInt8.toInt32)))] (.int (0 : Int32))) ∨ (v = none ∧ Fr n0 L ∧ Keep h0 h [r0] ∧ Exa Z h r0 "java/lang/String" ∧ ((255 : Int32) < c0) ∧ Fld Z h r0 "java/lang/String" "coder" "B" (.int (1 : Int32)) ∧ ∃ (t : Addr) (k : ClassId), Fld Z h r0 "java/lang/String" "value" "[B" (.ref t) ∧ h0.size ≤ t ∧ n0 ≤ t ∧ Arv Z h t k .byte (2 : Int32) [(.int (nar .byte ((c0 >>> ((0 : Int32) &&& 31)).toInt8.toInt32))), (.int (nar .byte ((c0 >>> ((8 : Int32) &&& 31)).toInt8.toInt32)))] (.int (0 : Int32)))
theorem ef_rmSE_1 (m : MethodId) (x0 : Addr) (x1 : Addr) (x2 : Int32) (x3 : Int32) : entryFrame m #[(.ref x0), (.ref x1), (.int x2), (.int x3), .null] 6 = mkF m 0 #[.val (.ref x0), .val (.ref x1), .val (.int x2), .val (.int x3), .val .null, .unset] [] := by first | (simp [entryFrame, mkF, argsToLocals, Value.category]; done) | rfl
set_option maxRecDepth 65536 in
set_option maxHeartbeats 40000000 in
theorem rmSE_1 (l : Launch) (Z : State) (a0 : Array Value) (hw : ∀ d ∈ tables_1, d.before a0 Z = true) (ws : List Jvm.Cond) (r0 : Addr) (r1 : Addr) (c0 : Int32) (ks : ClassId) (cst : Int32) (fv : Value) (h0 : Heap) (n0 : Nat) (Z0 : n0 ≤ h0.size) (E0 : Exa Z h0 r0 "java/lang/String") (Fv : Fld Z h0 r0 "java/lang/String" "value" "[B" .null) (Fc : Fld Z h0 r0 "java/lang/String" "coder" "B" (.int (0 : Int32))) (Vs : Arv Z h0 r1 ks .char (1 : Int32) [(.int c0)] (.int (0 : Int32))) (O0 : Old Z n0 h0) (g_r0 : n0 ≤ r0) (hne : r0 ≠ r1) (hb0 : 0 ≤ c0.toInt ∧ c0.toInt ≤ 65535) (SS : Sts Z cst fv) :
  MetFree l (⟨"java/lang/String", "<init>", "([CIILjava/lang/Void;)V"⟩ : MethodName) (head1 (Jvm.Cond.code (⟨"java/lang/String", "<init>", "([CIILjava/lang/Void;)V"⟩ : MethodName) jdk_42_method_149_code 6 none :: ws) ({ frames := 4, cells := 2, slots := 3, locals := 57 } : Room)) (fun a U => a = #[(.ref r0), (.ref r1), (.int (0 : Int32)), (.int (1 : Int32)), .null] ∧ Z.Warmed39 U.vm ∧ U.heap = h0) (fun _ _ _ _ _ => True) (fun _ U o U' => ∃ v L, o = .returned v ∧ QSE_1 Z r0 r1 c0 ks cst fv h0 n0 v U'.heap L ∧ FrameEnd U o U' L ({ frames := 4, cells := 2, slots := 3, locals := 57 } : Room).cells ({ frames := 4, cells := 2, slots := 3, locals := 57 } : Room).slots) := by
 refine MetFree.of_bodySF (plainFor_of_name pnc_java_lang_String) hisR ?_
 intro p e s m args below meth c s₁ Bd hml0 hP hK
 obtain ⟨rfl, hZ, hh⟩ := hP
 have hx := Bd.exec
 have hby := Bd.bytes
 have hml : c.maxLocals = 6 := hml0
 have hown : s.vm.findClass "java/lang/String" = some m.cls := findClass_of_methodNamed Bd.named
 have hnm := (name_of_methodNamed Bd.named Bd.method).1
 have X0 : Stand p l e ({ frames := 4, cells := 2, slots := 3, locals := 57 } : Room) s m #[(.ref r0), (.ref r1), (.int (0 : Int32)), (.int (1 : Int32)), .null] below meth c s₁ [] 0 0 := Stand.of_body Bd
 have e0 : s₁.heap = h0 := by rw [← hh, Bd.state]; rfl
 have N0 := Fr.nil n0
 have kp0 : Keep h0 h0 [r0] := Keep.refl _ _
 have G0 : ∀ t, Steps p.tables e below (s₁.setTop (mkF m 0 #[rv r0, rv r1, iv 0, iv 1, .val .null, .unset] [])) t → Steps p.tables e below (s₁.setTop (entryFrame m #[(.ref r0), (.ref r1), (.int (0 : Int32)), (.int (1 : Int32)), .null] 6)) t := fun t k => castTop (ef_rmSE_1 m r0 r1 (0 : Int32) (1 : Int32)) k
 obtain ⟨T1, X1, e1, st1⟩ := initO X0 hx hZ hown (hq hw 11 rfl) (hq hw 12 rfl) (hq hw 13 rfl) e0 (g := (mkF m 1 #[rv r0, rv r1, iv 0, iv 1, .val .null, .unset] [(.ref r0)])) rfl (by rw [hml]; rfl) rfl (hb hby d2_1) (by decide) (W := 0) (by show 2 * 0 + _ ≤ _; exact Nat.le_of_eq rfl) (by decide)
 have G2 : ∀ t, Steps p.tables e below (T1.setTop (mkF m 5 #[rv r0, rv r1, iv 0, iv 1, .val .null, .unset] [(.int (1 : Int32))])) t → Steps p.tables e below (s₁.setTop (entryFrame m #[(.ref r0), (.ref r1), (.int (0 : Int32)), (.int (1 : Int32)), .null] 6)) t := by
  intro t kt
  refine G0 _ ?_
  refine XS.aloadN X0.here hx rfl (hb hby d2_0) rfl rfl ?_
  refine st1 _ ?_
  refine XS.iloadN X1.here hx rfl (hb hby d2_4) rfl ?_
  exact kt
 obtain ⟨T3, X3, e3, st3⟩ := getS2 X1 hx hZ hown (host := "") (Or.inl (hq hw 14 rfl)) Via.refl e1 (SS.1.ext O0.2) (g := (mkF m 27 #[rv r0, rv r1, iv 0, iv 1, .val .null, .unset] [])) rfl (hb hby d2_27)
 have G4 : ∀ t, Steps p.tables e below (T3.setTop (mkF m 30 #[rv r0, rv r1, iv 0, iv 1, .val .null, .unset] [(.int cst)])) t → Steps p.tables e below (s₁.setTop (entryFrame m #[(.ref r0), (.ref r1), (.int (0 : Int32)), (.int (1 : Int32)), .null] 6)) t := by
  intro t kt
  refine G2 _ ?_
  refine XS.ifYes X1.here hx rfl (pc0 := 5) (pc' := 27) rfl (hb hby d2_5) rfl ((if0 _ _).trans (feq (by decide)).2) (by decide) (by decide) ?_
  refine st3 _ ?_
  exact kt
 have hc30_5 : ¬ (cst = (0 : Int32)) := SS.2.1
 obtain ⟨_, _, ⟨T6, L6, k6, n6⟩, -, X6, ⟨Lc6, hQ6, l6, y6, z6⟩, st6⟩ := Jvm.LawKit.callS X3 hx (y := (⟨"java/lang/StringUTF16", "compress", "([CII)[B"⟩ : MethodName)) hown (mvT hZ (hq hw 15 rfl)) (mvT hZ (hq hw 16 rfl)) (mvT hZ (hq hw 17 rfl)) (mvT hZ (hq hw 18 rfl)) (by decide) (backOf (W := 0) (rmC3_1 l Z a0 hw [] r1 c0 ks cst fv h0 n0 Z0 Vs O0 hb0 SS) hZ (hq hw 18 rfl) (hq hw 17 rfl) (by decide) (by decide)) (g := (mkF m 36 #[rv r0, rv r1, iv 0, iv 1, .val .null, .unset] [(.int (1 : Int32)), (.int (0 : Int32)), (.ref r1)])) rfl (by rw [hml]; rfl) (argsL := [(.ref r1), (.int (0 : Int32)), (.int (1 : Int32))]) (rest := []) (lenOf pd_11 rfl) rfl (by show 2 * 0 + _ ≤ _; exact Nat.le_of_eq rfl) (hb hby d2_36) (fun _ _ => ⟨rfl, e3, (by decide : 0 + 2 ≤ _), (by decide : 0 + 3 ≤ _)⟩)
 dsimp only [Pt.U, Pt.locs, Pt.cells, Pt.slots] at X6 l6 y6 z6 st6 hQ6
 subst l6 y6 z6
 rcases hQ6 with ⟨b6, kb6, rfl, N6q, K6, g_b6, sz6, hq6, V6⟩ | ⟨b6, kb6, rfl, N6q, K6, g_b6, sz6, hq6, V6⟩
 ·skip
  have N6 := Fr.app N0 N6q
  have szk6 : h0.size ≤ b6 := Nat.le_trans kp0.1 sz6
  have ne_r0_b6 : r0 ≠ b6 := Nat.ne_of_lt (Nat.lt_of_lt_of_le E0.lt sz6)
  have ne_r1_b6 : r1 ≠ b6 := Nat.ne_of_lt (Nat.lt_of_lt_of_le Vs.lt sz6)
  have fa7 := E0.keep K6
  have fa8 := Fv.keep K6 nin0
  have fa9 := Fc.keep K6 nin0
  have fa10 := Vs.keep K6 nin0
  have fa11 := O0.keep K6 all0
  have z12 : n0 ≤ T6.heap.size := Nat.le_trans Z0 K6.1
  have kp13 : Keep h0 T6.heap [r0] := kp0.trans K6 all0
  obtain ⟨_, _, ⟨T14, L14, k14, n14⟩, -, X14, ⟨Lc14, hQ14, l14, y14, z14⟩, st14⟩ := Jvm.LawKit.callS X6 hx (y := (⟨"java/lang/StringUTF16", "coderFromArrayLen", "([BI)B"⟩ : MethodName)) hown (mvT hZ (hq hw 23 rfl)) (mvT hZ (hq hw 24 rfl)) (mvT hZ (hq hw 17 rfl)) (mvT hZ (hq hw 25 rfl)) (by decide) (backOf (W := 1) (rmCF_1_1 l Z a0 hw [] b6 kb6 [(.int (nar .byte (c0.toInt8.toInt32)))] T6.heap n0 z12 V6) hZ (hq hw 25 rfl) (hq hw 17 rfl) (by decide) (by decide)) (g := (mkF m 45 #[rv r0, rv r1, iv 0, iv 1, .val .null, rv b6] [(.int (1 : Int32)), (.ref b6), (.ref r0)])) rfl (by rw [hml]; rfl) (argsL := [(.ref b6), (.int (1 : Int32))]) (rest := [(.ref r0)]) (lenOf pd_12 rfl) rfl (by show 2 * 0 + _ ≤ _; exact Nat.le_of_eq rfl) (hb hby d2_45) (fun _ _ => ⟨rfl, rfl, (by decide : 2 + 0 ≤ _), (by decide : 3 + 0 ≤ _)⟩)
  dsimp only [Pt.U, Pt.locs, Pt.cells, Pt.slots] at X14 l14 y14 z14 st14 hQ14
  subst l14 y14 z14
  obtain ⟨rfl, N14q, eh14⟩ := hQ14
  have N14 := Fr.app N6 N14q
  obtain ⟨T15, h15, X15, e15, W15, st15⟩ := putFN X14 hx hZ hown (hq hw 26 rfl) Via.refl eh14 fa9 fa7 (Or.inr ⟨(hq hw 27 rfl), rfl, hnm⟩) (hq hw 2 rfl) (ty := .byte) (v' := (.int (0 : Int32))) (by decide) rfl (fits_nar_byte (0 : Int32)) (g := (mkF m 48 #[rv r0, rv r1, iv 0, iv 1, .val .null, rv b6] [(.int (0 : Int32)), (.ref r0)])) rfl rfl (hb hby d2_48)
  have fa16 := fa7.wr W15
  have fa17 := fa8.other W15 (Or.inr (slot_ne (Or.inr (hq hw 29 rfl)) (Or.inr (hq hw 27 rfl)) (by decide) (t := (.array .byte)) (t' := .byte) (by decide) (by decide)))
  have fa18 : Fld Z h15 r0 "java/lang/String" "coder" "B" (.int (0 : Int32)) := fa9.same W15
  have fa19 := fa10.other W15 (Ne.symm hne)
  have fa20 := fa11.wr W15 g_r0
  have fa21 := V6.other W15 (Ne.symm ne_r0_b6)
  have z22 : n0 ≤ h15.size := Nat.le_trans z12 (Nat.le_of_eq W15.size.symm)
  have kp23 : Keep h0 h15 [r0] := kp13.wr W15 (Or.inl (List.mem_of_getElem? (i := 0) rfl))
  have N15 := Fr.snoc X15 N14 g_r0
  obtain ⟨T24, h24, X24, e24, W24, st24⟩ := putF X15 hx hZ hown (host := "") (Or.inl (hq hw 28 rfl)) Via.refl e15 fa17 fa16 (Or.inr ⟨(hq hw 29 rfl), rfl, hnm⟩) (hq hw 2 rfl) (ty := (.array .byte)) (by decide) rfl rfl (g := (mkF m 54 #[rv r0, rv r1, iv 0, iv 1, .val .null, rv b6] [(.ref b6), (.ref r0)])) rfl rfl (hb hby d2_54)
  have fa25 := fa16.wr W24
  have fa26 : Fld Z h24 r0 "java/lang/String" "value" "[B" (.ref b6) := fa17.same W24
  have fa27 := fa18.other W24 (Or.inr (slot_ne (Or.inr (hq hw 27 rfl)) (Or.inr (hq hw 29 rfl)) (by decide) (t := .byte) (t' := (.array .byte)) (by decide) (by decide)))
  have fa28 := fa19.other W24 (Ne.symm hne)
  have fa29 := fa20.wr W24 g_r0
  have fa30 := fa21.other W24 (Ne.symm ne_r0_b6)
  have z31 : n0 ≤ h24.size := Nat.le_trans z22 (Nat.le_of_eq W24.size.symm)
  have kp32 : Keep h0 h24 [r0] := kp23.wr W24 (Or.inl (List.mem_of_getElem? (i := 0) rfl))
  have N24 := Fr.snoc X24 N15 g_r0
  obtain ⟨fs, hr, hrun, hended, hW, hsame⟩ := X24.leave (v := none) (fun _ => rfl)
  refine ⟨_, _, G4 _ ?_, hrun, hended, _, _, rfl, ?_, ⟨_, rfl⟩, hW, hsame.mono (by decide) (by decide)⟩
  ·skip
   refine XS.ifNo X3.here hx rfl (hb hby d2_30) rfl ((if0 _ _).trans (feq hc30_5).1) ?_
   refine XS.aloadN X3.here hx rfl (hb hby d2_33) rfl rfl ?_
   refine XS.iloadN X3.here hx rfl (hb hby d2_34) rfl ?_
   refine XS.iloadN X3.here hx rfl (hb hby d2_35) rfl ?_
   refine st6 _ ?_
   refine XS.astore X6.here hx rfl (hb hby d2_39) rfl rfl (l' := #[rv r0, rv r1, iv 0, iv 1, .val .null, rv b6]) rfl ?_
   refine XS.aloadN X6.here hx rfl (hb hby d2_41) rfl rfl ?_
   refine XS.aload X6.here hx rfl (hb hby d2_42) rfl rfl ?_
   refine XS.iloadN X6.here hx rfl (hb hby d2_44) rfl ?_
   refine st14 _ ?_
   refine st15 _ ?_
   refine XS.aloadN X15.here hx rfl (hb hby d2_51) rfl rfl ?_
   refine XS.aload X15.here hx rfl (hb hby d2_52) rfl rfl ?_
   refine st24 _ ?_
   exact X24.returnOut hx Bd.returns (hb hby d2_57) hr
  ·show QSE_1 Z r0 r1 c0 ks cst fv h0 n0 _ T24.heap _
   rw [e24]
   exact Or.inl ⟨rfl, N24, kp32, fa25, hq6, fa27, b6, kb6, fa26, szk6, g_b6, fa30⟩
 ·skip
  have N6 := Fr.app N0 N6q
  have szk6 : h0.size ≤ b6 := Nat.le_trans kp0.1 sz6
  have ne_r0_b6 : r0 ≠ b6 := Nat.ne_of_lt (Nat.lt_of_lt_of_le E0.lt sz6)
  have ne_r1_b6 : r1 ≠ b6 := Nat.ne_of_lt (Nat.lt_of_lt_of_le Vs.lt sz6)
  have fa33 := E0.keep K6
  have fa34 := Fv.keep K6 nin0
  have fa35 := Fc.keep K6 nin0
  have fa36 := Vs.keep K6 nin0
  have fa37 := O0.keep K6 all0
  have z38 : n0 ≤ T6.heap.size := Nat.le_trans Z0 K6.1
  have kp39 : Keep h0 T6.heap [r0] := kp0.trans K6 all0
  obtain ⟨_, _, ⟨T40, L40, k40, n40⟩, -, X40, ⟨Lc40, hQ40, l40, y40, z40⟩, st40⟩ := Jvm.LawKit.callS X6 hx (y := (⟨"java/lang/StringUTF16", "coderFromArrayLen", "([BI)B"⟩ : MethodName)) hown (mvT hZ (hq hw 23 rfl)) (mvT hZ (hq hw 24 rfl)) (mvT hZ (hq hw 17 rfl)) (mvT hZ (hq hw 25 rfl)) (by decide) (backOf (W := 1) (rmCF_1_2 l Z a0 hw [] b6 kb6 [(.int (nar .byte ((c0 >>> ((0 : Int32) &&& 31)).toInt8.toInt32))), (.int (nar .byte ((c0 >>> ((8 : Int32) &&& 31)).toInt8.toInt32)))] T6.heap n0 z38 V6) hZ (hq hw 25 rfl) (hq hw 17 rfl) (by decide) (by decide)) (g := (mkF m 45 #[rv r0, rv r1, iv 0, iv 1, .val .null, rv b6] [(.int (1 : Int32)), (.ref b6), (.ref r0)])) rfl (by rw [hml]; rfl) (argsL := [(.ref b6), (.int (1 : Int32))]) (rest := [(.ref r0)]) (lenOf pd_12 rfl) rfl (by show 2 * 0 + _ ≤ _; exact Nat.le_of_eq rfl) (hb hby d2_45) (fun _ _ => ⟨rfl, rfl, (by decide : 2 + 0 ≤ _), (by decide : 3 + 0 ≤ _)⟩)
  dsimp only [Pt.U, Pt.locs, Pt.cells, Pt.slots] at X40 l40 y40 z40 st40 hQ40
  subst l40 y40 z40
  obtain ⟨rfl, N40q, eh40⟩ := hQ40
  have N40 := Fr.app N6 N40q
  obtain ⟨T41, h41, X41, e41, W41, st41⟩ := putFN X40 hx hZ hown (hq hw 26 rfl) Via.refl eh40 fa35 fa33 (Or.inr ⟨(hq hw 27 rfl), rfl, hnm⟩) (hq hw 2 rfl) (ty := .byte) (v' := (.int (1 : Int32))) (by decide) rfl (fits_nar_byte (1 : Int32)) (g := (mkF m 48 #[rv r0, rv r1, iv 0, iv 1, .val .null, rv b6] [(.int (1 : Int32)), (.ref r0)])) rfl rfl (hb hby d2_48)
  have fa42 := fa33.wr W41
  have fa43 := fa34.other W41 (Or.inr (slot_ne (Or.inr (hq hw 29 rfl)) (Or.inr (hq hw 27 rfl)) (by decide) (t := (.array .byte)) (t' := .byte) (by decide) (by decide)))
  have fa44 : Fld Z h41 r0 "java/lang/String" "coder" "B" (.int (1 : Int32)) := fa35.same W41
  have fa45 := fa36.other W41 (Ne.symm hne)
  have fa46 := fa37.wr W41 g_r0
  have fa47 := V6.other W41 (Ne.symm ne_r0_b6)
  have z48 : n0 ≤ h41.size := Nat.le_trans z38 (Nat.le_of_eq W41.size.symm)
  have kp49 : Keep h0 h41 [r0] := kp39.wr W41 (Or.inl (List.mem_of_getElem? (i := 0) rfl))
  have N41 := Fr.snoc X41 N40 g_r0
  obtain ⟨T50, h50, X50, e50, W50, st50⟩ := putF X41 hx hZ hown (host := "") (Or.inl (hq hw 28 rfl)) Via.refl e41 fa43 fa42 (Or.inr ⟨(hq hw 29 rfl), rfl, hnm⟩) (hq hw 2 rfl) (ty := (.array .byte)) (by decide) rfl rfl (g := (mkF m 54 #[rv r0, rv r1, iv 0, iv 1, .val .null, rv b6] [(.ref b6), (.ref r0)])) rfl rfl (hb hby d2_54)
  have fa51 := fa42.wr W50
  have fa52 : Fld Z h50 r0 "java/lang/String" "value" "[B" (.ref b6) := fa43.same W50
  have fa53 := fa44.other W50 (Or.inr (slot_ne (Or.inr (hq hw 27 rfl)) (Or.inr (hq hw 29 rfl)) (by decide) (t := .byte) (t' := (.array .byte)) (by decide) (by decide)))
  have fa54 := fa45.other W50 (Ne.symm hne)
  have fa55 := fa46.wr W50 g_r0
  have fa56 := fa47.other W50 (Ne.symm ne_r0_b6)
  have z57 : n0 ≤ h50.size := Nat.le_trans z48 (Nat.le_of_eq W50.size.symm)
  have kp58 : Keep h0 h50 [r0] := kp49.wr W50 (Or.inl (List.mem_of_getElem? (i := 0) rfl))
  have N50 := Fr.snoc X50 N41 g_r0
  obtain ⟨fs, hr, hrun, hended, hW, hsame⟩ := X50.leave (v := none) (fun _ => rfl)
  refine ⟨_, _, G4 _ ?_, hrun, hended, _, _, rfl, ?_, ⟨_, rfl⟩, hW, hsame.mono (by decide) (by decide)⟩
  ·skip
   refine XS.ifNo X3.here hx rfl (hb hby d2_30) rfl ((if0 _ _).trans (feq hc30_5).1) ?_
   refine XS.aloadN X3.here hx rfl (hb hby d2_33) rfl rfl ?_
   refine XS.iloadN X3.here hx rfl (hb hby d2_34) rfl ?_
   refine XS.iloadN X3.here hx rfl (hb hby d2_35) rfl ?_
   refine st6 _ ?_
   refine XS.astore X6.here hx rfl (hb hby d2_39) rfl rfl (l' := #[rv r0, rv r1, iv 0, iv 1, .val .null, rv b6]) rfl ?_
   refine XS.aloadN X6.here hx rfl (hb hby d2_41) rfl rfl ?_
   refine XS.aload X6.here hx rfl (hb hby d2_42) rfl rfl ?_
   refine XS.iloadN X6.here hx rfl (hb hby d2_44) rfl ?_
   refine st40 _ ?_
   refine st41 _ ?_
   refine XS.aloadN X41.here hx rfl (hb hby d2_51) rfl rfl ?_
   refine XS.aload X41.here hx rfl (hb hby d2_52) rfl rfl ?_
   refine st50 _ ?_
   exact X50.returnOut hx Bd.returns (hb hby d2_57) hr
  ·show QSE_1 Z r0 r1 c0 ks cst fv h0 n0 _ T50.heap _
   rw [e50]
   exact Or.inr ⟨rfl, N50, kp58, fa51, hq6, fa53, b6, kb6, fa52, szk6, g_b6, fa56⟩
theorem d1_0 : decode jdk_42_method_3_code 0 = .ok (.aload_n 0, 1) := by decide +kernel
theorem d1_1 : decode jdk_42_method_3_code 1 = .ok (.aload_n 1, 1) := by decide +kernel
theorem d1_2 : decode jdk_42_method_3_code 2 = .ok (.iconst 0, 1) := by decide +kernel
theorem d1_3 : decode jdk_42_method_3_code 3 = .ok (.aload_n 1, 1) := by decide +kernel
theorem d1_4 : decode jdk_42_method_3_code 4 = .ok (.arraylength, 1) := by decide +kernel
theorem d1_5 : decode jdk_42_method_3_code 5 = .ok (.aconst_null, 1) := by decide +kernel
theorem d1_6 : decode jdk_42_method_3_code 6 = .ok (.invokespecial 27, 3) := by decide +kernel
theorem pd_13 : parseMethodDescriptor "([CIILjava/lang/Void;)V" = some ⟨[(.array .char), .int, .int, (.object "java/lang/Void")], none⟩ := by decide +kernel
theorem d1_9 : decode jdk_42_method_3_code 9 = .ok (.return_, 1) := by decide +kernel
def QSF_1 (Z : State) (r0 : Addr) (r1 : Addr) (c0 : Int32) (ks : ClassId) (cst : Int32) (fv : Value) (h0 : Heap) (n0 : Nat) (v : Option Value) (h : Heap) (L : List Loc) : Prop := (v = none ∧ Fr n0 L ∧ Keep h0 h [r0] ∧ Exa Z h r0 "java/lang/String" ∧ (¬ ((255 : Int32) < c0)) ∧ Fld Z h r0 "java/lang/String" "coder" "B" (.int (0 : Int32)) ∧ ∃ (t : Addr) (k : ClassId), Fld Z h r0 "java/lang/String" "value" "[B" (.ref t) ∧ h0.size ≤ t ∧ n0 ≤ t ∧ Arv Z h t k .byte (1 : Int32) [(.int (nar .byte (c0.toInt8.toInt32)))] (.int (0 : Int32))) ∨ (v = none ∧ Fr n0 L ∧ Keep h0 h [r0] ∧ Exa Z h r0 "java/lang/String" ∧ ((255 : Int32) < c0) ∧ Fld Z h r0 "java/lang/String" "coder" "B" (.int (1 : Int32)) ∧ ∃ (t : Addr) (k : ClassId), Fld Z h r0 "java/lang/String" "value" "[B" (.ref t) ∧ h0.size ≤ t ∧ n0 ≤ t ∧ Arv Z h t k .byte (2 : Int32) [(.int (nar .byte ((c0 >>> ((0 : Int32) &&& 31)).toInt8.toInt32))), (.int (nar .byte ((c0 >>> ((8 : Int32) &&& 31)).toInt8.toInt32)))] (.int (0 : Int32)))
theorem ef_rmSF_1 (m : MethodId) (x0 : Addr) (x1 : Addr) : entryFrame m #[(.ref x0), (.ref x1)] 2 = mkF m 0 #[.val (.ref x0), .val (.ref x1)] [] := by first | (simp [entryFrame, mkF, argsToLocals, Value.category]; done) | rfl
set_option maxRecDepth 65536 in
set_option maxHeartbeats 40000000 in
theorem rmSF_1 (l : Launch) (Z : State) (a0 : Array Value) (hw : ∀ d ∈ tables_1, d.before a0 Z = true) (ws : List Jvm.Cond) (r0 : Addr) (r1 : Addr) (c0 : Int32) (ks : ClassId) (cst : Int32) (fv : Value) (h0 : Heap) (n0 : Nat) (Z0 : n0 ≤ h0.size) (E0 : Exa Z h0 r0 "java/lang/String") (Fv : Fld Z h0 r0 "java/lang/String" "value" "[B" .null) (Fc : Fld Z h0 r0 "java/lang/String" "coder" "B" (.int (0 : Int32))) (Vs : Arv Z h0 r1 ks .char (1 : Int32) [(.int c0)] (.int (0 : Int32))) (O0 : Old Z n0 h0) (g_r0 : n0 ≤ r0) (hne : r0 ≠ r1) (hb0 : 0 ≤ c0.toInt ∧ c0.toInt ≤ 65535) (SS : Sts Z cst fv) :
  MetFree l (⟨"java/lang/String", "<init>", "([C)V"⟩ : MethodName) (head1 (Jvm.Cond.code (⟨"java/lang/String", "<init>", "([C)V"⟩ : MethodName) jdk_42_method_3_code 2 none :: ws) ({ frames := 5, cells := 2, slots := 3, locals := 74 } : Room)) (fun a U => a = #[(.ref r0), (.ref r1)] ∧ Z.Warmed39 U.vm ∧ U.heap = h0) (fun _ _ _ _ _ => True) (fun _ U o U' => ∃ v L, o = .returned v ∧ QSF_1 Z r0 r1 c0 ks cst fv h0 n0 v U'.heap L ∧ FrameEnd U o U' L ({ frames := 5, cells := 2, slots := 3, locals := 74 } : Room).cells ({ frames := 5, cells := 2, slots := 3, locals := 74 } : Room).slots) := by
 refine MetFree.of_bodySF (plainFor_of_name pnc_java_lang_String) hisR ?_
 intro p e s m args below meth c s₁ Bd hml0 hP hK
 obtain ⟨rfl, hZ, hh⟩ := hP
 have hx := Bd.exec
 have hby := Bd.bytes
 have hml : c.maxLocals = 2 := hml0
 have hown : s.vm.findClass "java/lang/String" = some m.cls := findClass_of_methodNamed Bd.named
 have hnm := (name_of_methodNamed Bd.named Bd.method).1
 have X0 : Stand p l e ({ frames := 5, cells := 2, slots := 3, locals := 74 } : Room) s m #[(.ref r0), (.ref r1)] below meth c s₁ [] 0 0 := Stand.of_body Bd
 have e0 : s₁.heap = h0 := by rw [← hh, Bd.state]; rfl
 have N0 := Fr.nil n0
 have kp0 : Keep h0 h0 [r0] := Keep.refl _ _
 have G0 : ∀ t, Steps p.tables e below (s₁.setTop (mkF m 0 #[rv r0, rv r1] [])) t → Steps p.tables e below (s₁.setTop (entryFrame m #[(.ref r0), (.ref r1)] 2)) t := fun t k => castTop (ef_rmSF_1 m r0 r1) k
 obtain ⟨cl1, Ar1, q1, S1, M1, H1, G1⟩ := id Vs
 obtain ⟨_, _, ⟨T2, L2, k2, n2⟩, -, X2, ⟨Lc2, hQ2, l2, y2, z2⟩, st2⟩ := X0.specialBack hx (y := (⟨"java/lang/String", "<init>", "([CIILjava/lang/Void;)V"⟩ : MethodName)) rfl hown (mvT hZ (hq hw 7 rfl)) (mvT hZ (hq hw 8 rfl)) (mvT hZ (hq hw 10 rfl)) (by decide) (backOf (W := 0) (rmSE_1 l Z a0 hw [] r0 r1 c0 ks cst fv h0 n0 Z0 E0 Fv Fc Vs O0 g_r0 hne hb0 SS) hZ (hq hw 10 rfl) (hq hw 3 rfl) (by decide) (by decide)) (g := (mkF m 6 #[rv r0, rv r1] [.null, (.int (1 : Int32)), (.int (0 : Int32)), (.ref r1), (.ref r0)])) rfl (by rw [hml]; rfl) (Steps.refl _) (a := r0) (argsL := [(.ref r1), (.int (0 : Int32)), (.int (1 : Int32)), .null]) (rest := []) (lenOf pd_13 rfl) rfl (by show 2 * 0 + _ ≤ _; exact Nat.le_of_eq rfl) (hb hby d1_6) (fun _ _ => ⟨rfl, e0, (by decide : 0 + 2 ≤ _), (by decide : 0 + 3 ≤ _)⟩)
 dsimp only [Pt.U, Pt.locs, Pt.cells, Pt.slots] at X2 l2 y2 z2 st2 hQ2
 subst l2 y2 z2
 rcases hQ2 with ⟨rfl, N2q, K2, A2, hq2, Fc2, ta2, kb2, Fv2, sz2, g_ta2, V2⟩ | ⟨rfl, N2q, K2, A2, hq2, Fc2, ta2, kb2, Fv2, sz2, g_ta2, V2⟩
 ·skip
  have N2 := Fr.app N0 N2q
  have szk2 : h0.size ≤ ta2 := Nat.le_trans kp0.1 sz2
  have ne_r0_ta2 : r0 ≠ ta2 := Nat.ne_of_lt (Nat.lt_of_lt_of_le E0.lt sz2)
  have ne_r1_ta2 : r1 ≠ ta2 := Nat.ne_of_lt (Nat.lt_of_lt_of_le Vs.lt sz2)
  have fa3 := E0.keep K2
  have fa4 := Vs.keep K2 (ninS (Ne.symm hne) nin0)
  have fa5 := O0.keep K2 (allS g_r0 all0)
  have z6 : n0 ≤ T2.heap.size := Nat.le_trans Z0 K2.1
  have kp7 : Keep h0 T2.heap [r0] := kp0.trans K2 (allS (Or.inl (List.mem_of_getElem? (i := 0) rfl)) all0)
  obtain ⟨fs, hr, hrun, hended, hW, hsame⟩ := X2.leave (v := none) (fun _ => rfl)
  refine ⟨_, _, G0 _ ?_, hrun, hended, _, _, rfl, ?_, ⟨_, rfl⟩, hW, hsame.mono (by decide) (by decide)⟩
  ·skip
   refine XS.aloadN X0.here hx rfl (hb hby d1_0) rfl rfl ?_
   refine XS.aloadN X0.here hx rfl (hb hby d1_1) rfl rfl ?_
   refine XS.iconst X0.here hx rfl (hb hby d1_2) ?_
   refine XS.aloadN X0.here hx rfl (hb hby d1_3) rfl rfl ?_
   refine X0.arraylength hx (by rw [e0]; exact Ar1.1) (State.isArrayOf_alike hZ.alike Ar1.2.1) (g := (mkF m 4 #[rv r0, rv r1] [(.ref r1), (.int (0 : Int32)), (.ref r1), (.ref r0)])) rfl rfl (hb hby d1_4) _ ?_
   rw [len_of S1 M1]
   refine XS.aconstNull X0.here hx rfl (hb hby d1_5) ?_
   refine st2.trans ?_
   exact X2.returnOut hx Bd.returns (hb hby d1_9) hr
  ·show QSF_1 Z r0 r1 c0 ks cst fv h0 n0 _ T2.heap _
   exact Or.inl ⟨rfl, N2, kp7, A2, hq2, Fc2, ta2, kb2, Fv2, szk2, g_ta2, V2⟩
 ·skip
  have N2 := Fr.app N0 N2q
  have szk2 : h0.size ≤ ta2 := Nat.le_trans kp0.1 sz2
  have ne_r0_ta2 : r0 ≠ ta2 := Nat.ne_of_lt (Nat.lt_of_lt_of_le E0.lt sz2)
  have ne_r1_ta2 : r1 ≠ ta2 := Nat.ne_of_lt (Nat.lt_of_lt_of_le Vs.lt sz2)
  have fa8 := E0.keep K2
  have fa9 := Vs.keep K2 (ninS (Ne.symm hne) nin0)
  have fa10 := O0.keep K2 (allS g_r0 all0)
  have z11 : n0 ≤ T2.heap.size := Nat.le_trans Z0 K2.1
  have kp12 : Keep h0 T2.heap [r0] := kp0.trans K2 (allS (Or.inl (List.mem_of_getElem? (i := 0) rfl)) all0)
  obtain ⟨fs, hr, hrun, hended, hW, hsame⟩ := X2.leave (v := none) (fun _ => rfl)
  refine ⟨_, _, G0 _ ?_, hrun, hended, _, _, rfl, ?_, ⟨_, rfl⟩, hW, hsame.mono (by decide) (by decide)⟩
  ·skip
   refine XS.aloadN X0.here hx rfl (hb hby d1_0) rfl rfl ?_
   refine XS.aloadN X0.here hx rfl (hb hby d1_1) rfl rfl ?_
   refine XS.iconst X0.here hx rfl (hb hby d1_2) ?_
   refine XS.aloadN X0.here hx rfl (hb hby d1_3) rfl rfl ?_
   refine X0.arraylength hx (by rw [e0]; exact Ar1.1) (State.isArrayOf_alike hZ.alike Ar1.2.1) (g := (mkF m 4 #[rv r0, rv r1] [(.ref r1), (.int (0 : Int32)), (.ref r1), (.ref r0)])) rfl rfl (hb hby d1_4) _ ?_
   rw [len_of S1 M1]
   refine XS.aconstNull X0.here hx rfl (hb hby d1_5) ?_
   refine st2.trans ?_
   exact X2.returnOut hx Bd.returns (hb hby d1_9) hr
  ·show QSF_1 Z r0 r1 c0 ks cst fv h0 n0 _ T2.heap _
   exact Or.inr ⟨rfl, N2, kp12, A2, hq2, Fc2, ta2, kb2, Fv2, szk2, g_ta2, V2⟩
def QC5_2 (Z : State) (r0 : Addr) (r2 : Addr) (c0 c1 : Int32) (ks kd : ClassId) (h0 : Heap) (n0 : Nat) (v : Option Value) (h : Heap) (L : List Loc) : Prop := (v = some (.int (0 : Int32)) ∧ Fr n0 L ∧ Keep h0 h [r2] ∧ (255 : Int32) < c0) ∨ (v = some (.int (1 : Int32)) ∧ Fr n0 L ∧ Keep h0 h [r2] ∧ ¬ ((255 : Int32) < c0) ∧ (255 : Int32) < c1) ∨ (v = some (.int (2 : Int32)) ∧ Fr n0 L ∧ Keep h0 h [r2] ∧ ¬ ((255 : Int32) < c0) ∧ ¬ ((255 : Int32) < c1) ∧ Arv Z h r2 kd .byte (2 : Int32) [(.int (nar .byte (c0.toInt8.toInt32))), (.int (nar .byte (c1.toInt8.toInt32)))] (.int (0 : Int32)))
theorem ef_rmC5_2 (m : MethodId) (x0 : Addr) (x1 : Int32) (x2 : Addr) (x3 : Int32) (x4 : Int32) : entryFrame m #[(.ref x0), (.int x1), (.ref x2), (.int x3), (.int x4)] 7 = mkF m 0 #[.val (.ref x0), .val (.int x1), .val (.ref x2), .val (.int x3), .val (.int x4), .unset, .unset] [] := by first | (simp [entryFrame, mkF, argsToLocals, Value.category]; done) | rfl
set_option maxRecDepth 65536 in
set_option maxHeartbeats 40000000 in
theorem rmC5_2 (l : Launch) (Z : State) (a0 : Array Value) (hw : ∀ d ∈ tables_1, d.before a0 Z = true) (ws : List Jvm.Cond) (r0 : Addr) (r2 : Addr) (c0 c1 : Int32) (ks kd : ClassId) (h0 : Heap) (n0 : Nat) (Z0 : n0 ≤ h0.size) (Vs : Arv Z h0 r0 ks .char (2 : Int32) [(.int c0), (.int c1)] (.int (0 : Int32))) (Vd : Arv Z h0 r2 kd .byte (2 : Int32) [(.int (0 : Int32)), (.int (0 : Int32))] (.int (0 : Int32))) (hne : r0 ≠ r2) (g_r2 : n0 ≤ r2) :
  MetFree l (⟨"java/lang/StringUTF16", "compress", "([CI[BII)I"⟩ : MethodName) (head1 (Jvm.Cond.code (⟨"java/lang/StringUTF16", "compress", "([CI[BII)I"⟩ : MethodName) jdk_52_method_21_code 7 (some .int) :: ws) ({ frames := 0, cells := 0, slots := 0, locals := 0 } : Room)) (fun a U => a = #[(.ref r0), (.int (0 : Int32)), (.ref r2), (.int (0 : Int32)), (.int (2 : Int32))] ∧ Z.Warmed39 U.vm ∧ U.heap = h0) (fun _ _ _ _ _ => True) (fun _ U o U' => ∃ v L, o = .returned v ∧ QC5_2 Z r0 r2 c0 c1 ks kd h0 n0 v U'.heap L ∧ FrameEnd U o U' L ({ frames := 0, cells := 0, slots := 0, locals := 0 } : Room).cells ({ frames := 0, cells := 0, slots := 0, locals := 0 } : Room).slots) := by
 refine MetFree.of_bodySF (plainFor_of_name pnc_java_lang_StringUTF16) hisR ?_
 intro p e s m args below meth c s₁ Bd hml0 hP hK
 obtain ⟨rfl, hZ, hh⟩ := hP
 have hx := Bd.exec
 have hby := Bd.bytes
 have hml : c.maxLocals = 7 := hml0
 have hown : s.vm.findClass "java/lang/StringUTF16" = some m.cls := findClass_of_methodNamed Bd.named
 have hnm := (name_of_methodNamed Bd.named Bd.method).1
 have X0 : Stand p l e ({ frames := 0, cells := 0, slots := 0, locals := 0 } : Room) s m #[(.ref r0), (.int (0 : Int32)), (.ref r2), (.int (0 : Int32)), (.int (2 : Int32))] below meth c s₁ [] 0 0 := Stand.of_body Bd
 have e0 : s₁.heap = h0 := by rw [← hh, Bd.state]; rfl
 have N0 := Fr.nil n0
 have kp0 : Keep h0 h0 [r2] := Keep.refl _ _
 have G0 : ∀ t, Steps p.tables e below (s₁.setTop (mkF m 0 #[rv r0, iv 0, rv r2, iv 0, iv 2, .unset, .unset] [])) t → Steps p.tables e below (s₁.setTop (entryFrame m #[(.ref r0), (.int (0 : Int32)), (.ref r2), (.int (0 : Int32)), (.int (2 : Int32))] 7)) t := fun t k => castTop (ef_rmC5_2 m r0 (0 : Int32) r2 (0 : Int32) (2 : Int32)) k
 have G1 : ∀ t, Steps p.tables e below (s₁.setTop (mkF m 7 #[rv r0, iv 0, rv r2, iv 0, iv 2, iv 0, .unset] [(.int (2 : Int32)), (.int (0 : Int32))])) t → Steps p.tables e below (s₁.setTop (entryFrame m #[(.ref r0), (.int (0 : Int32)), (.ref r2), (.int (0 : Int32)), (.int (2 : Int32))] 7)) t := by
  intro t kt
  refine G0 _ ?_
  refine XS.iconst X0.here hx rfl (hb hby d5_0) ?_
  refine XS.istore X0.here hx rfl (hb hby d5_1) rfl (l' := #[rv r0, iv 0, rv r2, iv 0, iv 2, iv 0, .unset]) rfl ?_
  refine XS.iload X0.here hx rfl (hb hby d5_3) rfl ?_
  refine XS.iload X0.here hx rfl (hb hby d5_5) rfl ?_
  exact kt
 obtain ⟨cl2, Ar2, q2, S2, M2, H2, G2⟩ := id Vs
 have hin2 : ¬ ((0 : Int32) < 0 ∨ cl2.slots.size ≤ ((0 : Int32)).toNatClampNeg) := inb_of S2 ⟨by decide, by decide⟩
 have hat2 : cl2.slots[((0 : Int32)).toNatClampNeg]? = some (.int c0) := H2.at hin2 rfl
 have G3 : ∀ t, Steps p.tables e below (s₁.setTop (mkF m 20 #[rv r0, iv 0, rv r2, iv 0, iv 2, iv 0, iv c0] [(.int (255 : Int32)), (.int c0)])) t → Steps p.tables e below (s₁.setTop (entryFrame m #[(.ref r0), (.int (0 : Int32)), (.ref r2), (.int (0 : Int32)), (.int (2 : Int32))] 7)) t := by
  intro t kt
  refine G1 _ ?_
  refine XS.icmpNo X0.here hx rfl (hb hby d5_7) rfl (tlt (by decide)).2.1 ?_
  refine XS.aloadN X0.here hx rfl (hb hby d5_10) rfl rfl ?_
  refine XS.iloadN X0.here hx rfl (hb hby d5_11) rfl ?_
  refine X0.caload hx (j := (0 : Int32)) (v := (.int c0)) (by rw [e0]; exact Ar2.1) (State.isArrayOf_alike hZ.alike Ar2.2.1) Ar2.2.2 hin2 hat2 (g := (mkF m 12 #[rv r0, iv 0, rv r2, iv 0, iv 2, iv 0, .unset] [(.int (0 : Int32)), (.ref r0)])) rfl rfl (hb hby d5_12) _ ?_
  refine XS.istore X0.here hx rfl (hb hby d5_13) rfl (l' := #[rv r0, iv 0, rv r2, iv 0, iv 2, iv 0, iv c0]) rfl ?_
  refine XS.iload X0.here hx rfl (hb hby d5_15) rfl ?_
  refine XS.sipush X0.here hx rfl (hb hby d5_17) ?_
  exact kt
 by_cases hc20_4 : (255 : Int32) < c0
 ·skip
  obtain ⟨fs, hr, hrun, hended, hW, hsame⟩ := X0.leave (v := some (.int (0 : Int32))) (fun h => by rw [Bd.returns] at h; cases h)
  refine ⟨_, _, G3 _ ?_, hrun, hended, _, _, rfl, ?_, ⟨_, rfl⟩, hW, hsame.mono (by decide) (by decide)⟩
  ·skip
   refine XS.icmpNo X0.here hx rfl (hb hby d5_20) rfl (tlt hc20_4).2.2.2 ?_
   refine XS.iload X0.here hx rfl (hb hby d5_23) rfl ?_
   exact retI X0 hx Bd.returns (hb hby d5_25) hr
  ·show QC5_2 Z r0 r2 c0 c1 ks kd h0 n0 _ s₁.heap _
   rw [e0]
   exact Or.inl ⟨rfl, N0, kp0, hc20_4⟩
 ·skip
  obtain ⟨cl5, Ar5, q5, S5, M5, H5, G5⟩ := id Vd
  have hin5 : ¬ ((0 : Int32) < 0 ∨ cl5.slots.size ≤ ((0 : Int32)).toNatClampNeg) := inb_of S5 ⟨by decide, by decide⟩
  obtain ⟨T6, h6, X6, e6, W6, st6⟩ := stB X0 hx hZ e0 Ar5 (j := (0 : Int32)) hin5 (g := (mkF m 31 #[rv r0, iv 0, rv r2, iv 0, iv 2, iv 0, iv c0] [(.int (c0.toInt8.toInt32)), (.int (0 : Int32)), (.ref r2)])) rfl rfl (hb hby d5_31)
  have fa7 := Vs.other W6 hne
  have z8 : n0 ≤ h6.size := Nat.le_trans Z0 (Nat.le_of_eq W6.size.symm)
  have kp9 : Keep h0 h6 [r2] := kp0.wr W6 (Or.inl (List.mem_of_getElem? (i := 0) rfl))
  have fa10 : Arv Z h6 r2 kd .byte (2 : Int32) [(.int (nar .byte (c0.toInt8.toInt32))), (.int (0 : Int32))] (.int (0 : Int32)) := Arv.set Ar5 q5 S5 M5 H5 G5 (fits_nar_byte _) W6 0 rfl (Nat.le_of_ble_eq_true rfl)
  have N6 := Fr.snoc X6 N0 g_r2
  have G11 : ∀ t, Steps p.tables e below (T6.setTop (mkF m 7 #[rv r0, iv 1, rv r2, iv 1, iv 2, iv 1, iv c0] [(.int (2 : Int32)), (.int (1 : Int32))])) t → Steps p.tables e below (s₁.setTop (entryFrame m #[(.ref r0), (.int (0 : Int32)), (.ref r2), (.int (0 : Int32)), (.int (2 : Int32))] 7)) t := by
   intro t kt
   refine G3 _ ?_
   refine XS.icmpYes X0.here hx rfl (pc0 := 20) (pc' := 26) rfl (hb hby d5_20) rfl (flt hc20_4).2.2.2 (by decide) (by decide) ?_
   refine XS.aloadN X0.here hx rfl (hb hby d5_26) rfl rfl ?_
   refine XS.iloadN X0.here hx rfl (hb hby d5_27) rfl ?_
   refine XS.iload X0.here hx rfl (hb hby d5_28) rfl ?_
   refine XS.i2b X0.here hx rfl (hb hby d5_30) rfl ?_
   refine st6 _ ?_
   refine XS.iinc X6.here hx rfl (hb hby d5_32) rfl (l' := #[rv r0, iv 1, rv r2, iv 0, iv 2, iv 0, iv c0]) rfl ?_
   refine XS.iinc X6.here hx rfl (hb hby d5_35) rfl (l' := #[rv r0, iv 1, rv r2, iv 1, iv 2, iv 0, iv c0]) rfl ?_
   refine XS.iinc X6.here hx rfl (hb hby d5_38) rfl (l' := #[rv r0, iv 1, rv r2, iv 1, iv 2, iv 1, iv c0]) rfl ?_
   refine XS.goto X6.here hx rfl (pc0 := 41) (pc' := 3) rfl (hb hby d5_41) (by decide) (by decide) ?_
   show Steps p.tables e below (T6.setTop (mkF m 3 #[rv r0, iv 1, rv r2, iv 1, iv 2, iv 1, iv c0] [])) _
   refine XS.iload X6.here hx rfl (hb hby d5_3) rfl ?_
   refine XS.iload X6.here hx rfl (hb hby d5_5) rfl ?_
   exact kt
  obtain ⟨cl12, Ar12, q12, S12, M12, H12, G12⟩ := id fa7
  have hin12 : ¬ ((1 : Int32) < 0 ∨ cl12.slots.size ≤ ((1 : Int32)).toNatClampNeg) := inb_of S12 ⟨by decide, by decide⟩
  have hat12 : cl12.slots[((1 : Int32)).toNatClampNeg]? = some (.int c1) := H12.at hin12 rfl
  have G13 : ∀ t, Steps p.tables e below (T6.setTop (mkF m 20 #[rv r0, iv 1, rv r2, iv 1, iv 2, iv 1, iv c1] [(.int (255 : Int32)), (.int c1)])) t → Steps p.tables e below (s₁.setTop (entryFrame m #[(.ref r0), (.int (0 : Int32)), (.ref r2), (.int (0 : Int32)), (.int (2 : Int32))] 7)) t := by
   intro t kt
   refine G11 _ ?_
   refine XS.icmpNo X6.here hx rfl (hb hby d5_7) rfl (tlt (by decide)).2.1 ?_
   refine XS.aloadN X6.here hx rfl (hb hby d5_10) rfl rfl ?_
   refine XS.iloadN X6.here hx rfl (hb hby d5_11) rfl ?_
   refine X6.caload hx (j := (1 : Int32)) (v := (.int c1)) (by rw [e6]; exact Ar12.1) (State.isArrayOf_alike hZ.alike Ar12.2.1) Ar12.2.2 hin12 hat12 (g := (mkF m 12 #[rv r0, iv 1, rv r2, iv 1, iv 2, iv 1, iv c0] [(.int (1 : Int32)), (.ref r0)])) rfl rfl (hb hby d5_12) _ ?_
   refine XS.istore X6.here hx rfl (hb hby d5_13) rfl (l' := #[rv r0, iv 1, rv r2, iv 1, iv 2, iv 1, iv c1]) rfl ?_
   refine XS.iload X6.here hx rfl (hb hby d5_15) rfl ?_
   refine XS.sipush X6.here hx rfl (hb hby d5_17) ?_
   exact kt
  by_cases hc20_14 : (255 : Int32) < c1
  ·skip
   obtain ⟨fs, hr, hrun, hended, hW, hsame⟩ := X6.leave (v := some (.int (1 : Int32))) (fun h => by rw [Bd.returns] at h; cases h)
   refine ⟨_, _, G13 _ ?_, hrun, hended, _, _, rfl, ?_, ⟨_, rfl⟩, hW, hsame.mono (by decide) (by decide)⟩
   ·skip
    refine XS.icmpNo X6.here hx rfl (hb hby d5_20) rfl (tlt hc20_14).2.2.2 ?_
    refine XS.iload X6.here hx rfl (hb hby d5_23) rfl ?_
    exact retI X6 hx Bd.returns (hb hby d5_25) hr
   ·show QC5_2 Z r0 r2 c0 c1 ks kd h0 n0 _ T6.heap _
    rw [e6]
    exact Or.inr (Or.inl ⟨rfl, N6, kp9, hc20_4, hc20_14⟩)
  ·skip
   obtain ⟨cl15, Ar15, q15, S15, M15, H15, G15⟩ := id fa10
   have hin15 : ¬ ((1 : Int32) < 0 ∨ cl15.slots.size ≤ ((1 : Int32)).toNatClampNeg) := inb_of S15 ⟨by decide, by decide⟩
   obtain ⟨T16, h16, X16, e16, W16, st16⟩ := stB X6 hx hZ e6 Ar15 (j := (1 : Int32)) hin15 (g := (mkF m 31 #[rv r0, iv 1, rv r2, iv 1, iv 2, iv 1, iv c1] [(.int (c1.toInt8.toInt32)), (.int (1 : Int32)), (.ref r2)])) rfl rfl (hb hby d5_31)
   have fa17 := fa7.other W16 hne
   have z18 : n0 ≤ h16.size := Nat.le_trans z8 (Nat.le_of_eq W16.size.symm)
   have kp19 : Keep h0 h16 [r2] := kp9.wr W16 (Or.inl (List.mem_of_getElem? (i := 0) rfl))
   have fa20 : Arv Z h16 r2 kd .byte (2 : Int32) [(.int (nar .byte (c0.toInt8.toInt32))), (.int (nar .byte (c1.toInt8.toInt32)))] (.int (0 : Int32)) := Arv.set Ar15 q15 S15 M15 H15 G15 (fits_nar_byte _) W16 1 rfl (Nat.le_of_ble_eq_true rfl)
   have N16 := Fr.snoc X16 N6 g_r2
   have G21 : ∀ t, Steps p.tables e below (T16.setTop (mkF m 7 #[rv r0, iv 2, rv r2, iv 2, iv 2, iv 2, iv c1] [(.int (2 : Int32)), (.int (2 : Int32))])) t → Steps p.tables e below (s₁.setTop (entryFrame m #[(.ref r0), (.int (0 : Int32)), (.ref r2), (.int (0 : Int32)), (.int (2 : Int32))] 7)) t := by
    intro t kt
    refine G13 _ ?_
    refine XS.icmpYes X6.here hx rfl (pc0 := 20) (pc' := 26) rfl (hb hby d5_20) rfl (flt hc20_14).2.2.2 (by decide) (by decide) ?_
    refine XS.aloadN X6.here hx rfl (hb hby d5_26) rfl rfl ?_
    refine XS.iloadN X6.here hx rfl (hb hby d5_27) rfl ?_
    refine XS.iload X6.here hx rfl (hb hby d5_28) rfl ?_
    refine XS.i2b X6.here hx rfl (hb hby d5_30) rfl ?_
    refine st16 _ ?_
    refine XS.iinc X16.here hx rfl (hb hby d5_32) rfl (l' := #[rv r0, iv 2, rv r2, iv 1, iv 2, iv 1, iv c1]) rfl ?_
    refine XS.iinc X16.here hx rfl (hb hby d5_35) rfl (l' := #[rv r0, iv 2, rv r2, iv 2, iv 2, iv 1, iv c1]) rfl ?_
    refine XS.iinc X16.here hx rfl (hb hby d5_38) rfl (l' := #[rv r0, iv 2, rv r2, iv 2, iv 2, iv 2, iv c1]) rfl ?_
    refine XS.goto X16.here hx rfl (pc0 := 41) (pc' := 3) rfl (hb hby d5_41) (by decide) (by decide) ?_
    refine XS.iload X16.here hx rfl (hb hby d5_3) rfl ?_
    refine XS.iload X16.here hx rfl (hb hby d5_5) rfl ?_
    exact kt
   obtain ⟨fs, hr, hrun, hended, hW, hsame⟩ := X16.leave (v := some (.int (2 : Int32))) (fun h => by rw [Bd.returns] at h; cases h)
   refine ⟨_, _, G21 _ ?_, hrun, hended, _, _, rfl, ?_, ⟨_, rfl⟩, hW, hsame.mono (by decide) (by decide)⟩
   ·skip
    refine XS.icmpYes X16.here hx rfl (pc0 := 7) (pc' := 44) rfl (hb hby d5_7) rfl (flt (by decide)).2.1 (by decide) (by decide) ?_
    refine XS.iload X16.here hx rfl (hb hby d5_44) rfl ?_
    show Steps p.tables e below (T16.setTop (mkF m 46 #[rv r0, iv 2, rv r2, iv 2, iv 2, iv 2, iv c1] [(.int (2 : Int32))])) _
    exact retI X16 hx Bd.returns (hb hby d5_46) hr
   ·show QC5_2 Z r0 r2 c0 c1 ks kd h0 n0 _ T16.heap _
    rw [e16]
    exact Or.inr (Or.inr (⟨rfl, N16, kp19, hc20_4, hc20_14, fa20⟩))
def QNB_2 (Z : State)  (h0 : Heap) (n0 : Nat) (v : Option Value) (h : Heap) (L : List Loc) : Prop := ∃ (b : Addr) (k : ClassId), v = some (.ref b) ∧ Fr n0 L ∧ Keep h0 h [] ∧ n0 ≤ b ∧ h0.size ≤ b ∧ Arv Z h b k .byte (4 : Int32) [(.int (0 : Int32)), (.int (0 : Int32)), (.int (0 : Int32)), (.int (0 : Int32))] (.int (0 : Int32))
theorem ef_rmNB_2 (m : MethodId) (x0 : Int32) : entryFrame m #[(.int x0)] 1 = mkF m 0 #[.val (.int x0)] [] := by first | (simp [entryFrame, mkF, argsToLocals, Value.category]; done) | rfl
set_option maxRecDepth 65536 in
set_option maxHeartbeats 40000000 in
theorem rmNB_2 (l : Launch) (Z : State) (a0 : Array Value) (hw : ∀ d ∈ tables_1, d.before a0 Z = true) (ws : List Jvm.Cond)  (h0 : Heap) (n0 : Nat) (Z0 : n0 ≤ h0.size) :
  MetFree l (⟨"java/lang/StringUTF16", "newBytesFor", "(I)[B"⟩ : MethodName) (head1 (Jvm.Cond.code (⟨"java/lang/StringUTF16", "newBytesFor", "(I)[B"⟩ : MethodName) jdk_52_method_2_code 1 (some (.array .byte)) :: ws) ({ frames := 1, cells := 1, slots := 4, locals := 12 } : Room)) (fun a U => a = #[(.int (2 : Int32))] ∧ Z.Warmed39 U.vm ∧ U.heap = h0) (fun _ _ _ _ _ => True) (fun _ U o U' => ∃ v L, o = .returned v ∧ QNB_2 Z  h0 n0 v U'.heap L ∧ FrameEnd U o U' L ({ frames := 1, cells := 1, slots := 4, locals := 12 } : Room).cells ({ frames := 1, cells := 1, slots := 4, locals := 12 } : Room).slots) := by
 refine MetFree.of_bodySF (plainFor_of_name pnc_java_lang_StringUTF16) hisR ?_
 intro p e s m args below meth c s₁ Bd hml0 hP hK
 obtain ⟨rfl, hZ, hh⟩ := hP
 have hx := Bd.exec
 have hby := Bd.bytes
 have hml : c.maxLocals = 1 := hml0
 have hown : s.vm.findClass "java/lang/StringUTF16" = some m.cls := findClass_of_methodNamed Bd.named
 have hnm := (name_of_methodNamed Bd.named Bd.method).1
 have X0 : Stand p l e ({ frames := 1, cells := 1, slots := 4, locals := 12 } : Room) s m #[(.int (2 : Int32))] below meth c s₁ [] 0 0 := Stand.of_body Bd
 have e0 : s₁.heap = h0 := by rw [← hh, Bd.state]; rfl
 have N0 := Fr.nil n0
 have kp0 : Keep h0 h0 [] := Keep.refl _ _
 have G0 : ∀ t, Steps p.tables e below (s₁.setTop (mkF m 0 #[iv 2] [])) t → Steps p.tables e below (s₁.setTop (entryFrame m #[(.int (2 : Int32))] 1)) t := fun t k => castTop (ef_rmNB_2 m (2 : Int32)) k
 obtain ⟨_, _, ⟨T1, L1, k1, n1⟩, -, X1, ⟨Lc1, hQ1, l1, y1, z1⟩, st1⟩ := Jvm.LawKit.callS X0 hx (y := (⟨"java/lang/StringUTF16", "newBytesLength", "(I)I"⟩ : MethodName)) hown (mvT hZ (hq hw 79 rfl)) (mvT hZ (hq hw 80 rfl)) (mvT hZ (hq hw 17 rfl)) (mvT hZ (hq hw 81 rfl)) (by decide) (backOf (W := 0) (rm18 l Z a0 hw [] (2 : Int32)  h0 n0 Z0 (by decide) (by decide)) hZ (hq hw 81 rfl) (hq hw 17 rfl) (by decide) (by decide)) (g := (mkF m 1 #[iv 2] [(.int (2 : Int32))])) rfl (by rw [hml]; rfl) (argsL := [(.int (2 : Int32))]) (rest := []) (lenOf pd_7 rfl) rfl (by show 2 * 0 + _ ≤ _; exact Nat.le_of_eq rfl) (hb hby d17_1) (fun _ _ => ⟨rfl, e0, (by decide : 0 + 0 ≤ _), (by decide : 0 + 0 ≤ _)⟩)
 dsimp only [Pt.U, Pt.locs, Pt.cells, Pt.slots] at X1 l1 y1 z1 st1 hQ1
 subst l1 y1 z1
 obtain ⟨rfl, N1q, eh1⟩ := hQ1
 have N1 := Fr.app N0 N1q
 obtain ⟨T2, h2, k2, X2, e2, E2, A2, st2⟩ := newP X1 hx hZ (hq hw 19 rfl) eh1 (g := (mkF m 4 #[iv 2] [(.int (4 : Int32))])) rfl (hb hby d17_4) rfl (by decide) (cap := 4) (by decide) (by decide) (by decide) (by decide)
 obtain ⟨b2, g2⟩ : ∃ z, z = h0.size := ⟨_, rfl⟩
 rw [← g2] at A2 st2
 have g_b2 : n0 ≤ b2 := Nat.le_trans Z0 (Nat.le_of_eq g2.symm)
 have sz_b2 : h0.size ≤ b2 := Nat.le_trans kp0.1 (Nat.le_of_eq g2.symm)
 have z3 : n0 ≤ h2.size := Nat.le_trans Z0 E2.1
 have kp4 : Keep h0 h2 [] := kp0.ext E2
 have fa5 : Arv Z h2 b2 k2 .byte (4 : Int32) [(.int (0 : Int32)), (.int (0 : Int32)), (.int (0 : Int32)), (.int (0 : Int32))] (.int (0 : Int32)) := (Arv.new A2 (by decide)).pad (pad_rep [] (.int (0 : Int32)) 4)
 obtain ⟨fs, hr, hrun, hended, hW, hsame⟩ := X2.leave (v := some (.ref b2)) (fun h => by rw [Bd.returns] at h; cases h)
 refine ⟨_, _, G0 _ ?_, hrun, hended, _, _, rfl, ?_, ⟨_, rfl⟩, hW, hsame.mono (by decide) (by decide)⟩
 ·skip
  refine XS.iloadN X0.here hx rfl (hb hby d17_0) rfl ?_
  refine st1 _ ?_
  refine st2 _ ?_
  exact retOut X2 hx Bd.returns rfl (Or.inr (Or.inr (Or.inr (Or.inr ⟨rfl, rfl, rfl⟩)))) (hb hby d17_6) hr
 ·show QNB_2 Z  h0 n0 _ T2.heap _
  rw [e2]
  exact ⟨b2, k2, rfl, N1, kp4, g_b2, sz_b2, fa5⟩
def QTB_2 (Z : State) (r0 : Addr) (c0 c1 : Int32) (ks : ClassId) (cst : Int32) (fv : Value) (h0 : Heap) (n0 : Nat) (v : Option Value) (h : Heap) (L : List Loc) : Prop := ∃ (b : Addr) (k : ClassId), v = some (.ref b) ∧ Fr n0 L ∧ Keep h0 h [] ∧ n0 ≤ b ∧ h0.size ≤ b ∧ Arv Z h b k .byte (4 : Int32) [(.int (nar .byte ((c0 >>> ((0 : Int32) &&& 31)).toInt8.toInt32))), (.int (nar .byte ((c0 >>> ((8 : Int32) &&& 31)).toInt8.toInt32))), (.int (nar .byte ((c1 >>> ((0 : Int32) &&& 31)).toInt8.toInt32))), (.int (nar .byte ((c1 >>> ((8 : Int32) &&& 31)).toInt8.toInt32)))] (.int (0 : Int32))
theorem ef_rmTB_2 (m : MethodId) (x0 : Addr) (x1 : Int32) (x2 : Int32) : entryFrame m #[(.ref x0), (.int x1), (.int x2)] 5 = mkF m 0 #[.val (.ref x0), .val (.int x1), .val (.int x2), .unset, .unset] [] := by first | (simp [entryFrame, mkF, argsToLocals, Value.category]; done) | rfl
set_option maxRecDepth 65536 in
set_option maxHeartbeats 40000000 in
theorem rmTB_2 (l : Launch) (Z : State) (a0 : Array Value) (hw : ∀ d ∈ tables_1, d.before a0 Z = true) (ws : List Jvm.Cond) (r0 : Addr) (c0 c1 : Int32) (ks : ClassId) (cst : Int32) (fv : Value) (h0 : Heap) (n0 : Nat) (Z0 : n0 ≤ h0.size) (Vs : Arv Z h0 r0 ks .char (2 : Int32) [(.int c0), (.int c1)] (.int (0 : Int32))) (O0 : Old Z n0 h0) (SS : Sts Z cst fv) :
  MetFree l (⟨"java/lang/StringUTF16", "toBytes", "([CII)[B"⟩ : MethodName) (head1 (Jvm.Cond.code (⟨"java/lang/StringUTF16", "toBytes", "([CII)[B"⟩ : MethodName) jdk_52_method_14_code 5 (some (.array .byte)) :: ws) ({ frames := 2, cells := 1, slots := 4, locals := 24 } : Room)) (fun a U => a = #[(.ref r0), (.int (0 : Int32)), (.int (2 : Int32))] ∧ Z.Warmed39 U.vm ∧ U.heap = h0) (fun _ _ _ _ _ => True) (fun _ U o U' => ∃ v L, o = .returned v ∧ QTB_2 Z r0 c0 c1 ks cst fv h0 n0 v U'.heap L ∧ FrameEnd U o U' L ({ frames := 2, cells := 1, slots := 4, locals := 24 } : Room).cells ({ frames := 2, cells := 1, slots := 4, locals := 24 } : Room).slots) := by
 refine MetFree.of_bodySF (plainFor_of_name pnc_java_lang_StringUTF16) hisR ?_
 intro p e s m args below meth c s₁ Bd hml0 hP hK
 obtain ⟨rfl, hZ, hh⟩ := hP
 have hx := Bd.exec
 have hby := Bd.bytes
 have hml : c.maxLocals = 5 := hml0
 have hown : s.vm.findClass "java/lang/StringUTF16" = some m.cls := findClass_of_methodNamed Bd.named
 have hnm := (name_of_methodNamed Bd.named Bd.method).1
 have X0 : Stand p l e ({ frames := 2, cells := 1, slots := 4, locals := 24 } : Room) s m #[(.ref r0), (.int (0 : Int32)), (.int (2 : Int32))] below meth c s₁ [] 0 0 := Stand.of_body Bd
 have e0 : s₁.heap = h0 := by rw [← hh, Bd.state]; rfl
 have N0 := Fr.nil n0
 have kp0 : Keep h0 h0 [] := Keep.refl _ _
 have G0 : ∀ t, Steps p.tables e below (s₁.setTop (mkF m 0 #[rv r0, iv 0, iv 2, .unset, .unset] [])) t → Steps p.tables e below (s₁.setTop (entryFrame m #[(.ref r0), (.int (0 : Int32)), (.int (2 : Int32))] 5)) t := fun t k => castTop (ef_rmTB_2 m r0 (0 : Int32) (2 : Int32)) k
 obtain ⟨_, _, ⟨T1, L1, k1, n1⟩, -, X1, ⟨Lc1, hQ1, l1, y1, z1⟩, st1⟩ := Jvm.LawKit.callS X0 hx (y := (⟨"java/lang/StringUTF16", "newBytesFor", "(I)[B"⟩ : MethodName)) hown (mvT hZ (hq hw 76 rfl)) (mvT hZ (hq hw 77 rfl)) (mvT hZ (hq hw 17 rfl)) (mvT hZ (hq hw 78 rfl)) (by decide) (backOf (W := 0) (rmNB_2 l Z a0 hw []   h0 n0 Z0 ) hZ (hq hw 78 rfl) (hq hw 17 rfl) (by decide) (by decide)) (g := (mkF m 1 #[rv r0, iv 0, iv 2, .unset, .unset] [(.int (2 : Int32))])) rfl (by rw [hml]; rfl) (argsL := [(.int (2 : Int32))]) (rest := []) (lenOf pd_8 rfl) rfl (by show 2 * 0 + _ ≤ _; exact Nat.le_of_eq rfl) (hb hby d16_1) (fun _ _ => ⟨rfl, e0, (by decide : 0 + 1 ≤ _), (by decide : 0 + 4 ≤ _)⟩)
 dsimp only [Pt.U, Pt.locs, Pt.cells, Pt.slots] at X1 l1 y1 z1 st1 hQ1
 subst l1 y1 z1
 obtain ⟨b1, kb1, rfl, N1q, K1, g_b1, sz1, V1⟩ := hQ1
 have N1 := Fr.app N0 N1q
 have szk1 : h0.size ≤ b1 := Nat.le_trans kp0.1 sz1
 have ne_r0_b1 : r0 ≠ b1 := Nat.ne_of_lt (Nat.lt_of_lt_of_le Vs.lt sz1)
 have fa2 := Vs.keep K1 nin0
 have fa3 := O0.keep K1 all0
 have z4 : n0 ≤ T1.heap.size := Nat.le_trans Z0 K1.1
 have kp5 : Keep h0 T1.heap [] := kp0.trans K1 all0
 have G6 : ∀ t, Steps p.tables e below (T1.setTop (mkF m 11 #[rv r0, iv 0, iv 2, rv b1, iv 0] [(.int (2 : Int32)), (.int (0 : Int32))])) t → Steps p.tables e below (s₁.setTop (entryFrame m #[(.ref r0), (.int (0 : Int32)), (.int (2 : Int32))] 5)) t := by
  intro t kt
  refine G0 _ ?_
  refine XS.iloadN X0.here hx rfl (hb hby d16_0) rfl ?_
  refine st1 _ ?_
  refine XS.astoreN X1.here hx rfl (hb hby d16_4) rfl rfl (l' := #[rv r0, iv 0, iv 2, rv b1, .unset]) rfl ?_
  refine XS.iconst X1.here hx rfl (hb hby d16_5) ?_
  refine XS.istore X1.here hx rfl (hb hby d16_6) rfl (l' := #[rv r0, iv 0, iv 2, rv b1, iv 0]) rfl ?_
  refine XS.iload X1.here hx rfl (hb hby d16_8) rfl ?_
  refine XS.iloadN X1.here hx rfl (hb hby d16_10) rfl ?_
  exact kt
 obtain ⟨cl7, Ar7, q7, S7, M7, H7, G7⟩ := id fa2
 have hin7 : ¬ ((0 : Int32) < 0 ∨ cl7.slots.size ≤ ((0 : Int32)).toNatClampNeg) := inb_of S7 ⟨by decide, by decide⟩
 have hat7 : cl7.slots[((0 : Int32)).toNatClampNeg]? = some (.int c0) := H7.at hin7 rfl
 obtain ⟨_, _, ⟨T8, L8, k8, n8⟩, -, X8, ⟨Lc8, hQ8, l8, y8, z8⟩, st8⟩ := Jvm.LawKit.callS X1 hx (y := (⟨"java/lang/StringUTF16", "putChar", "([BII)V"⟩ : MethodName)) hown (mvT hZ (hq hw 83 rfl)) (mvT hZ (hq hw 84 rfl)) (mvT hZ (hq hw 17 rfl)) (mvT hZ (hq hw 85 rfl)) (by decide) (backOf (W := 0) (rm19 l Z a0 hw [] b1 (0 : Int32) c0 kb1 (4 : Int32) [(.int (0 : Int32)), (.int (0 : Int32)), (.int (0 : Int32)), (.int (0 : Int32))] cst fv T1.heap n0 z4 V1 fa3 (by decide) (by decide) (Nat.le_of_ble_eq_true rfl) (Nat.le_of_ble_eq_true rfl) g_b1 SS) hZ (hq hw 85 rfl) (hq hw 17 rfl) (by decide) (by decide)) (g := (mkF m 20 #[rv r0, iv 0, iv 2, rv b1, iv 0] [(.int c0), (.int (0 : Int32)), (.ref b1)])) rfl (by rw [hml]; rfl) (argsL := [(.ref b1), (.int (0 : Int32)), (.int c0)]) (rest := []) (lenOf pd_9 rfl) rfl (by show 2 * 0 + _ ≤ _; exact Nat.le_of_eq rfl) (hb hby d16_20) (fun _ _ => ⟨rfl, rfl, (by decide : 1 + 0 ≤ _), (by decide : 4 + 0 ≤ _)⟩)
 dsimp only [Pt.U, Pt.locs, Pt.cells, Pt.slots] at X8 l8 y8 z8 st8 hQ8
 subst l8 y8 z8
 obtain ⟨rfl, N8q, K8, V8⟩ := hQ8
 have N8 := Fr.app N1 N8q
 have fa9 := fa2.keep K8 (ninS ne_r0_b1 nin0)
 have fa10 := fa3.keep K8 (allS g_b1 all0)
 have z11 : n0 ≤ T8.heap.size := Nat.le_trans z4 K8.1
 have kp12 : Keep h0 T8.heap [] := kp5.trans K8 (allS (Or.inr szk1) all0)
 have fa13 : Arv Z T8.heap b1 kb1 .byte (4 : Int32) [(.int (nar .byte ((c0 >>> ((0 : Int32) &&& 31)).toInt8.toInt32))), (.int (nar .byte ((c0 >>> ((8 : Int32) &&& 31)).toInt8.toInt32))), (.int (0 : Int32)), (.int (0 : Int32))] (.int (0 : Int32)) := V8
 have G14 : ∀ t, Steps p.tables e below (T8.setTop (mkF m 11 #[rv r0, iv 1, iv 2, rv b1, iv 1] [(.int (2 : Int32)), (.int (1 : Int32))])) t → Steps p.tables e below (s₁.setTop (entryFrame m #[(.ref r0), (.int (0 : Int32)), (.int (2 : Int32))] 5)) t := by
  intro t kt
  refine G6 _ ?_
  refine XS.icmpNo X1.here hx rfl (hb hby d16_11) rfl (tlt (by decide)).2.1 ?_
  refine XS.aloadN X1.here hx rfl (hb hby d16_14) rfl rfl ?_
  refine XS.iload X1.here hx rfl (hb hby d16_15) rfl ?_
  refine XS.aloadN X1.here hx rfl (hb hby d16_17) rfl rfl ?_
  refine XS.iloadN X1.here hx rfl (hb hby d16_18) rfl ?_
  refine X1.caload hx (j := (0 : Int32)) (v := (.int c0)) Ar7.1 (State.isArrayOf_alike hZ.alike Ar7.2.1) Ar7.2.2 hin7 hat7 (g := (mkF m 19 #[rv r0, iv 0, iv 2, rv b1, iv 0] [(.int (0 : Int32)), (.ref r0), (.int (0 : Int32)), (.ref b1)])) rfl rfl (hb hby d16_19) _ ?_
  refine st8 _ ?_
  refine XS.iinc X8.here hx rfl (hb hby d16_23) rfl (l' := #[rv r0, iv 1, iv 2, rv b1, iv 0]) rfl ?_
  refine XS.iinc X8.here hx rfl (hb hby d16_26) rfl (l' := #[rv r0, iv 1, iv 2, rv b1, iv 1]) rfl ?_
  refine XS.goto X8.here hx rfl (pc0 := 29) (pc' := 8) rfl (hb hby d16_29) (by decide) (by decide) ?_
  refine XS.iload X8.here hx rfl (hb hby d16_8) rfl ?_
  refine XS.iloadN X8.here hx rfl (hb hby d16_10) rfl ?_
  exact kt
 obtain ⟨cl15, Ar15, q15, S15, M15, H15, G15⟩ := id fa9
 have hin15 : ¬ ((1 : Int32) < 0 ∨ cl15.slots.size ≤ ((1 : Int32)).toNatClampNeg) := inb_of S15 ⟨by decide, by decide⟩
 have hat15 : cl15.slots[((1 : Int32)).toNatClampNeg]? = some (.int c1) := H15.at hin15 rfl
 obtain ⟨_, _, ⟨T16, L16, k16, n16⟩, -, X16, ⟨Lc16, hQ16, l16, y16, z16⟩, st16⟩ := Jvm.LawKit.callS X8 hx (y := (⟨"java/lang/StringUTF16", "putChar", "([BII)V"⟩ : MethodName)) hown (mvT hZ (hq hw 83 rfl)) (mvT hZ (hq hw 84 rfl)) (mvT hZ (hq hw 17 rfl)) (mvT hZ (hq hw 85 rfl)) (by decide) (backOf (W := 0) (rm19 l Z a0 hw [] b1 (1 : Int32) c1 kb1 (4 : Int32) [(.int (nar .byte ((c0 >>> ((0 : Int32) &&& 31)).toInt8.toInt32))), (.int (nar .byte ((c0 >>> ((8 : Int32) &&& 31)).toInt8.toInt32))), (.int (0 : Int32)), (.int (0 : Int32))] cst fv T8.heap n0 z11 fa13 fa10 (by decide) (by decide) (Nat.le_of_ble_eq_true rfl) (Nat.le_of_ble_eq_true rfl) g_b1 SS) hZ (hq hw 85 rfl) (hq hw 17 rfl) (by decide) (by decide)) (g := (mkF m 20 #[rv r0, iv 1, iv 2, rv b1, iv 1] [(.int c1), (.int (1 : Int32)), (.ref b1)])) rfl (by rw [hml]; rfl) (argsL := [(.ref b1), (.int (1 : Int32)), (.int c1)]) (rest := []) (lenOf pd_9 rfl) rfl (by show 2 * 0 + _ ≤ _; exact Nat.le_of_eq rfl) (hb hby d16_20) (fun _ _ => ⟨rfl, rfl, (by decide : 1 + 0 ≤ _), (by decide : 4 + 0 ≤ _)⟩)
 dsimp only [Pt.U, Pt.locs, Pt.cells, Pt.slots] at X16 l16 y16 z16 st16 hQ16
 subst l16 y16 z16
 obtain ⟨rfl, N16q, K16, V16⟩ := hQ16
 have N16 := Fr.app N8 N16q
 have fa17 := fa9.keep K16 (ninS ne_r0_b1 nin0)
 have fa18 := fa10.keep K16 (allS g_b1 all0)
 have z19 : n0 ≤ T16.heap.size := Nat.le_trans z11 K16.1
 have kp20 : Keep h0 T16.heap [] := kp12.trans K16 (allS (Or.inr szk1) all0)
 have fa21 : Arv Z T16.heap b1 kb1 .byte (4 : Int32) [(.int (nar .byte ((c0 >>> ((0 : Int32) &&& 31)).toInt8.toInt32))), (.int (nar .byte ((c0 >>> ((8 : Int32) &&& 31)).toInt8.toInt32))), (.int (nar .byte ((c1 >>> ((0 : Int32) &&& 31)).toInt8.toInt32))), (.int (nar .byte ((c1 >>> ((8 : Int32) &&& 31)).toInt8.toInt32)))] (.int (0 : Int32)) := V16
 have G22 : ∀ t, Steps p.tables e below (T16.setTop (mkF m 11 #[rv r0, iv 2, iv 2, rv b1, iv 2] [(.int (2 : Int32)), (.int (2 : Int32))])) t → Steps p.tables e below (s₁.setTop (entryFrame m #[(.ref r0), (.int (0 : Int32)), (.int (2 : Int32))] 5)) t := by
  intro t kt
  refine G14 _ ?_
  refine XS.icmpNo X8.here hx rfl (hb hby d16_11) rfl (tlt (by decide)).2.1 ?_
  refine XS.aloadN X8.here hx rfl (hb hby d16_14) rfl rfl ?_
  show Steps p.tables e below (T8.setTop (mkF m 15 #[rv r0, iv 1, iv 2, rv b1, iv 1] [(.ref b1)])) _
  refine XS.iload X8.here hx rfl (hb hby d16_15) rfl ?_
  refine XS.aloadN X8.here hx rfl (hb hby d16_17) rfl rfl ?_
  refine XS.iloadN X8.here hx rfl (hb hby d16_18) rfl ?_
  refine X8.caload hx (j := (1 : Int32)) (v := (.int c1)) Ar15.1 (State.isArrayOf_alike hZ.alike Ar15.2.1) Ar15.2.2 hin15 hat15 (g := (mkF m 19 #[rv r0, iv 1, iv 2, rv b1, iv 1] [(.int (1 : Int32)), (.ref r0), (.int (1 : Int32)), (.ref b1)])) rfl rfl (hb hby d16_19) _ ?_
  refine st16 _ ?_
  refine XS.iinc X16.here hx rfl (hb hby d16_23) rfl (l' := #[rv r0, iv 2, iv 2, rv b1, iv 1]) rfl ?_
  refine XS.iinc X16.here hx rfl (hb hby d16_26) rfl (l' := #[rv r0, iv 2, iv 2, rv b1, iv 2]) rfl ?_
  refine XS.goto X16.here hx rfl (pc0 := 29) (pc' := 8) rfl (hb hby d16_29) (by decide) (by decide) ?_
  refine XS.iload X16.here hx rfl (hb hby d16_8) rfl ?_
  refine XS.iloadN X16.here hx rfl (hb hby d16_10) rfl ?_
  exact kt
 obtain ⟨fs, hr, hrun, hended, hW, hsame⟩ := X16.leave (v := some (.ref b1)) (fun h => by rw [Bd.returns] at h; cases h)
 refine ⟨_, _, G22 _ ?_, hrun, hended, _, _, rfl, ?_, ⟨_, rfl⟩, hW, hsame.mono (by decide) (by decide)⟩
 ·skip
  refine XS.icmpYes X16.here hx rfl (pc0 := 11) (pc' := 32) rfl (hb hby d16_11) rfl (flt (by decide)).2.1 (by decide) (by decide) ?_
  refine XS.aloadN X16.here hx rfl (hb hby d16_32) rfl rfl ?_
  exact retOut X16 hx Bd.returns rfl (Or.inr (Or.inr (Or.inr (Or.inr ⟨rfl, rfl, rfl⟩)))) (hb hby d16_33) hr
 ·show QTB_2 Z r0 c0 c1 ks cst fv h0 n0 _ T16.heap _
  exact ⟨b1, kb1, rfl, N16, kp20, g_b1, szk1, fa21⟩
def QC3_2 (Z : State) (r0 : Addr) (c0 c1 : Int32) (ks : ClassId) (cst : Int32) (fv : Value) (h0 : Heap) (n0 : Nat) (v : Option Value) (h : Heap) (L : List Loc) : Prop := (∃ (b : Addr) (k : ClassId), v = some (.ref b) ∧ Fr n0 L ∧ Keep h0 h [] ∧ n0 ≤ b ∧ h0.size ≤ b ∧ (¬ ((255 : Int32) < c0) ∧ ¬ ((255 : Int32) < c1)) ∧ Arv Z h b k .byte (2 : Int32) [(.int (nar .byte (c0.toInt8.toInt32))), (.int (nar .byte (c1.toInt8.toInt32)))] (.int (0 : Int32))) ∨ (∃ (b : Addr) (k : ClassId), v = some (.ref b) ∧ Fr n0 L ∧ Keep h0 h [] ∧ n0 ≤ b ∧ h0.size ≤ b ∧ ((255 : Int32) < c0 ∨ (255 : Int32) < c1) ∧ Arv Z h b k .byte (4 : Int32) [(.int (nar .byte ((c0 >>> ((0 : Int32) &&& 31)).toInt8.toInt32))), (.int (nar .byte ((c0 >>> ((8 : Int32) &&& 31)).toInt8.toInt32))), (.int (nar .byte ((c1 >>> ((0 : Int32) &&& 31)).toInt8.toInt32))), (.int (nar .byte ((c1 >>> ((8 : Int32) &&& 31)).toInt8.toInt32)))] (.int (0 : Int32)))
theorem ef_rmC3_2 (m : MethodId) (x0 : Addr) (x1 : Int32) (x2 : Int32) : entryFrame m #[(.ref x0), (.int x1), (.int x2)] 6 = mkF m 0 #[.val (.ref x0), .val (.int x1), .val (.int x2), .unset, .unset, .unset] [] := by first | (simp [entryFrame, mkF, argsToLocals, Value.category]; done) | rfl
set_option maxRecDepth 65536 in
set_option maxHeartbeats 40000000 in
theorem rmC3_2 (l : Launch) (Z : State) (a0 : Array Value) (hw : ∀ d ∈ tables_1, d.before a0 Z = true) (ws : List Jvm.Cond) (r0 : Addr) (c0 c1 : Int32) (ks : ClassId) (cst : Int32) (fv : Value) (h0 : Heap) (n0 : Nat) (Z0 : n0 ≤ h0.size) (Vs : Arv Z h0 r0 ks .char (2 : Int32) [(.int c0), (.int c1)] (.int (0 : Int32))) (O0 : Old Z n0 h0) (hb0 : 0 ≤ c0.toInt ∧ c0.toInt ≤ 65535) (hb1 : 0 ≤ c1.toInt ∧ c1.toInt ≤ 65535) (SS : Sts Z cst fv) :
  MetFree l (⟨"java/lang/StringUTF16", "compress", "([CII)[B"⟩ : MethodName) (head1 (Jvm.Cond.code (⟨"java/lang/StringUTF16", "compress", "([CII)[B"⟩ : MethodName) jdk_52_method_16_code 6 (some (.array .byte)) :: ws) ({ frames := 3, cells := 2, slots := 6, locals := 40 } : Room)) (fun a U => a = #[(.ref r0), (.int (0 : Int32)), (.int (2 : Int32))] ∧ Z.Warmed39 U.vm ∧ U.heap = h0) (fun _ _ _ _ _ => True) (fun _ U o U' => ∃ v L, o = .returned v ∧ QC3_2 Z r0 c0 c1 ks cst fv h0 n0 v U'.heap L ∧ FrameEnd U o U' L ({ frames := 3, cells := 2, slots := 6, locals := 40 } : Room).cells ({ frames := 3, cells := 2, slots := 6, locals := 40 } : Room).slots) := by
 refine MetFree.of_bodySF (plainFor_of_name pnc_java_lang_StringUTF16) hisR ?_
 intro p e s m args below meth c s₁ Bd hml0 hP hK
 obtain ⟨rfl, hZ, hh⟩ := hP
 have hx := Bd.exec
 have hby := Bd.bytes
 have hml : c.maxLocals = 6 := hml0
 have hown : s.vm.findClass "java/lang/StringUTF16" = some m.cls := findClass_of_methodNamed Bd.named
 have hnm := (name_of_methodNamed Bd.named Bd.method).1
 have X0 : Stand p l e ({ frames := 3, cells := 2, slots := 6, locals := 40 } : Room) s m #[(.ref r0), (.int (0 : Int32)), (.int (2 : Int32))] below meth c s₁ [] 0 0 := Stand.of_body Bd
 have e0 : s₁.heap = h0 := by rw [← hh, Bd.state]; rfl
 have N0 := Fr.nil n0
 have kp0 : Keep h0 h0 [] := Keep.refl _ _
 have G0 : ∀ t, Steps p.tables e below (s₁.setTop (mkF m 0 #[rv r0, iv 0, iv 2, .unset, .unset, .unset] [])) t → Steps p.tables e below (s₁.setTop (entryFrame m #[(.ref r0), (.int (0 : Int32)), (.int (2 : Int32))] 6)) t := fun t k => castTop (ef_rmC3_2 m r0 (0 : Int32) (2 : Int32)) k
 obtain ⟨T1, h1, k1, X1, e1, E1, A1, st1⟩ := newP X0 hx hZ (hq hw 19 rfl) e0 (g := (mkF m 1 #[rv r0, iv 0, iv 2, .unset, .unset, .unset] [(.int (2 : Int32))])) rfl (hb hby d4_1) rfl (by decide) (cap := 2) (by decide) (by decide) (by decide) (by decide)
 obtain ⟨b1, g1⟩ : ∃ z, z = h0.size := ⟨_, rfl⟩
 rw [← g1] at A1 st1
 have g_b1 : n0 ≤ b1 := Nat.le_trans Z0 (Nat.le_of_eq g1.symm)
 have sz_b1 : h0.size ≤ b1 := Nat.le_trans kp0.1 (Nat.le_of_eq g1.symm)
 have ne_r0_b1 : r0 ≠ b1 := Nat.ne_of_lt (Nat.lt_of_lt_of_le Vs.lt (Nat.le_of_eq g1.symm))
 have fa2 := Vs.ext E1
 have fa3 := O0.ext E1
 have z4 : n0 ≤ h1.size := Nat.le_trans Z0 E1.1
 have kp5 : Keep h0 h1 [] := kp0.ext E1
 have fa6 : Arv Z h1 b1 k1 .byte (2 : Int32) [(.int (0 : Int32)), (.int (0 : Int32))] (.int (0 : Int32)) := (Arv.new A1 (by decide)).pad (pad_rep [] (.int (0 : Int32)) 2)
 obtain ⟨_, _, ⟨T7, L7, k7, n7⟩, -, X7, ⟨Lc7, hQ7, l7, y7, z7⟩, st7⟩ := Jvm.LawKit.callS X1 hx (y := (⟨"java/lang/StringUTF16", "compress", "([CI[BII)I"⟩ : MethodName)) hown (mvT hZ (hq hw 20 rfl)) (mvT hZ (hq hw 21 rfl)) (mvT hZ (hq hw 17 rfl)) (mvT hZ (hq hw 22 rfl)) (by decide) (backOf (W := 0) (rmC5_2 l Z a0 hw [] r0 b1 c0 c1 ks k1 h1 n0 z4 fa2 fa6 ne_r0_b1 g_b1) hZ (hq hw 22 rfl) (hq hw 17 rfl) (by decide) (by decide)) (g := (mkF m 9 #[rv r0, iv 0, iv 2, rv b1, .unset, .unset] [(.int (2 : Int32)), (.int (0 : Int32)), (.ref b1), (.int (0 : Int32)), (.ref r0)])) rfl (by rw [hml]; rfl) (argsL := [(.ref r0), (.int (0 : Int32)), (.ref b1), (.int (0 : Int32)), (.int (2 : Int32))]) (rest := []) (lenOf pd_10 rfl) rfl (by show 2 * 0 + _ ≤ _; exact Nat.le_of_eq rfl) (hb hby d4_9) (fun _ _ => ⟨rfl, e1, (by decide : 1 + 0 ≤ _), (by decide : 2 + 0 ≤ _)⟩)
 dsimp only [Pt.U, Pt.locs, Pt.cells, Pt.slots] at X7 l7 y7 z7 st7 hQ7
 subst l7 y7 z7
 rcases hQ7 with ⟨rfl, N7q, K7, hq7_0⟩ | ⟨rfl, N7q, K7, hq7_0, hq7_1⟩ | ⟨rfl, N7q, K7, hq7_0, hq7_1, V7⟩
 ·skip
  have N7 := Fr.app N0 N7q
  have fa8 := fa2.keep K7 (ninS ne_r0_b1 nin0)
  have fa9 := fa3.keep K7 (allS g_b1 all0)
  have z10 : n0 ≤ T7.heap.size := Nat.le_trans z4 K7.1
  have kp11 : Keep h0 T7.heap [] := kp5.trans K7 (allS (Or.inr sz_b1) all0)
  have G12 : ∀ t, Steps p.tables e below (T7.setTop (mkF m 17 #[rv r0, iv 0, iv 2, rv b1, iv 0, .unset] [(.int (2 : Int32)), (.int (0 : Int32))])) t → Steps p.tables e below (s₁.setTop (entryFrame m #[(.ref r0), (.int (0 : Int32)), (.int (2 : Int32))] 6)) t := by
   intro t kt
   refine G0 _ ?_
   refine XS.iloadN X0.here hx rfl (hb hby d4_0) rfl ?_
   refine st1 _ ?_
   refine XS.astoreN X1.here hx rfl (hb hby d4_3) rfl rfl (l' := #[rv r0, iv 0, iv 2, rv b1, .unset, .unset]) rfl ?_
   refine XS.aloadN X1.here hx rfl (hb hby d4_4) rfl rfl ?_
   refine XS.iloadN X1.here hx rfl (hb hby d4_5) rfl ?_
   refine XS.aloadN X1.here hx rfl (hb hby d4_6) rfl rfl ?_
   refine XS.iconst X1.here hx rfl (hb hby d4_7) ?_
   refine XS.iloadN X1.here hx rfl (hb hby d4_8) rfl ?_
   refine st7 _ ?_
   refine XS.istore X7.here hx rfl (hb hby d4_12) rfl (l' := #[rv r0, iv 0, iv 2, rv b1, iv 0, .unset]) rfl ?_
   refine XS.iload X7.here hx rfl (hb hby d4_14) rfl ?_
   refine XS.iloadN X7.here hx rfl (hb hby d4_16) rfl ?_
   exact kt
  obtain ⟨_, _, ⟨T13, L13, k13, n13⟩, -, X13, ⟨Lc13, hQ13, l13, y13, z13⟩, st13⟩ := Jvm.LawKit.callS X7 hx (y := (⟨"java/lang/StringUTF16", "toBytes", "([CII)[B"⟩ : MethodName)) hown (mvT hZ (hq hw 73 rfl)) (mvT hZ (hq hw 74 rfl)) (mvT hZ (hq hw 17 rfl)) (mvT hZ (hq hw 75 rfl)) (by decide) (backOf (W := 0) (rmTB_2 l Z a0 hw [] r0 c0 c1 ks cst fv T7.heap n0 z10 fa8 fa9 SS) hZ (hq hw 75 rfl) (hq hw 17 rfl) (by decide) (by decide)) (g := (mkF m 23 #[rv r0, iv 0, iv 2, rv b1, iv 0, .unset] [(.int (2 : Int32)), (.int (0 : Int32)), (.ref r0)])) rfl (by rw [hml]; rfl) (argsL := [(.ref r0), (.int (0 : Int32)), (.int (2 : Int32))]) (rest := []) (lenOf pd_11 rfl) rfl (by show 2 * 0 + _ ≤ _; exact Nat.le_of_eq rfl) (hb hby d4_23) (fun _ _ => ⟨rfl, rfl, (by decide : 1 + 1 ≤ _), (by decide : 2 + 4 ≤ _)⟩)
  dsimp only [Pt.U, Pt.locs, Pt.cells, Pt.slots] at X13 l13 y13 z13 st13 hQ13
  subst l13 y13 z13
  obtain ⟨b13, kb13, rfl, N13q, K13, g_b13, sz13, V13⟩ := hQ13
  have N13 := Fr.app N7 N13q
  have szk13 : h0.size ≤ b13 := Nat.le_trans kp11.1 sz13
  have ne_r0_b13 : r0 ≠ b13 := Nat.ne_of_lt (Nat.lt_of_lt_of_le fa8.lt sz13)
  have fa14 := fa8.keep K13 nin0
  have fa15 := fa9.keep K13 all0
  have z16 : n0 ≤ T13.heap.size := Nat.le_trans z10 K13.1
  have kp17 : Keep h0 T13.heap [] := kp11.trans K13 all0
  obtain ⟨_, _, ⟨T18, L18, k18, n18⟩, -, X18, ⟨Lc18, hQ18, l18, y18, z18⟩, st18⟩ := Jvm.LawKit.callS X13 hx (y := (⟨"java/lang/StringUTF16", "getChar", "([BI)C"⟩ : MethodName)) hown (mvT hZ (hq hw 89 rfl)) (mvT hZ (hq hw 90 rfl)) (mvT hZ (hq hw 17 rfl)) (mvT hZ (hq hw 91 rfl)) (by decide) (backOf (W := 0) (rm20 l Z a0 hw [] b13 (0 : Int32) kb13 (4 : Int32) [(.int (nar .byte ((c0 >>> ((0 : Int32) &&& 31)).toInt8.toInt32))), (.int (nar .byte ((c0 >>> ((8 : Int32) &&& 31)).toInt8.toInt32))), (.int (nar .byte ((c1 >>> ((0 : Int32) &&& 31)).toInt8.toInt32))), (.int (nar .byte ((c1 >>> ((8 : Int32) &&& 31)).toInt8.toInt32)))] (nar .byte ((c0 >>> ((0 : Int32) &&& 31)).toInt8.toInt32)) (nar .byte ((c0 >>> ((8 : Int32) &&& 31)).toInt8.toInt32)) cst fv T13.heap n0 z16 V13 fa15 (by decide) (by decide) rfl rfl SS) hZ (hq hw 91 rfl) (hq hw 17 rfl) (by decide) (by decide)) (g := (mkF m 32 #[rv r0, iv 0, iv 2, rv b1, iv 0, rv b13] [(.int (0 : Int32)), (.ref b13)])) rfl (by rw [hml]; rfl) (argsL := [(.ref b13), (.int (0 : Int32))]) (rest := []) (lenOf pd_5 rfl) rfl (by show 2 * 0 + _ ≤ _; exact Nat.le_of_eq rfl) (hb hby d4_32) (fun _ _ => ⟨rfl, rfl, (by decide : 2 + 0 ≤ _), (by decide : 6 + 0 ≤ _)⟩)
  dsimp only [Pt.U, Pt.locs, Pt.cells, Pt.slots] at X18 l18 y18 z18 st18 hQ18
  subst l18 y18 z18
  obtain ⟨rfl, N18q, eh18⟩ := hQ18
  have N18 := Fr.app N13 N18q
  have G19 : ∀ t, Steps p.tables e below (T18.setTop (mkF m 38 #[rv r0, iv 0, iv 2, rv b1, iv 0, rv b13] [(.int (255 : Int32)), (.int (fget (nar .byte ((c0 >>> ((0 : Int32) &&& 31)).toInt8.toInt32)) (nar .byte ((c0 >>> ((8 : Int32) &&& 31)).toInt8.toInt32))))])) t → Steps p.tables e below (s₁.setTop (entryFrame m #[(.ref r0), (.int (0 : Int32)), (.int (2 : Int32))] 6)) t := by
   intro t kt
   refine G12 _ ?_
   refine XS.icmpNo X7.here hx rfl (hb hby d4_17) rfl (feq (by decide)).1 ?_
   refine XS.aloadN X7.here hx rfl (hb hby d4_20) rfl rfl ?_
   refine XS.iloadN X7.here hx rfl (hb hby d4_21) rfl ?_
   refine XS.iloadN X7.here hx rfl (hb hby d4_22) rfl ?_
   refine st13 _ ?_
   refine XS.astore X13.here hx rfl (hb hby d4_26) rfl rfl (l' := #[rv r0, iv 0, iv 2, rv b1, iv 0, rv b13]) rfl ?_
   refine XS.aload X13.here hx rfl (hb hby d4_28) rfl rfl ?_
   refine XS.iload X13.here hx rfl (hb hby d4_30) rfl ?_
   show Steps p.tables e below (T13.setTop (mkF m 32 #[rv r0, iv 0, iv 2, rv b1, iv 0, rv b13] [(.int (0 : Int32)), (.ref b13)])) _
   refine st18 _ ?_
   refine XS.sipush X18.here hx rfl (hb hby d4_35) ?_
   exact kt
  have hc38_20 : (255 : Int32) < (fget (nar .byte ((c0 >>> ((0 : Int32) &&& 31)).toInt8.toInt32)) (nar .byte ((c0 >>> ((8 : Int32) &&& 31)).toInt8.toInt32))) := by rw [own_u16 c0 hb0]; exact hq7_0
  obtain ⟨fs, hr, hrun, hended, hW, hsame⟩ := X18.leave (v := some (.ref b13)) (fun h => by rw [Bd.returns] at h; cases h)
  refine ⟨_, _, G19 _ ?_, hrun, hended, _, _, rfl, ?_, ⟨_, rfl⟩, hW, hsame.mono (by decide) (by decide)⟩
  ·skip
   refine XS.icmpYes X18.here hx rfl (pc0 := 38) (pc' := 54) rfl (hb hby d4_38) rfl (tlt hc38_20).2.2.1 (by decide) (by decide) ?_
   refine XS.aload X18.here hx rfl (hb hby d4_54) rfl rfl ?_
   exact retOut X18 hx Bd.returns rfl (Or.inr (Or.inr (Or.inr (Or.inr ⟨rfl, rfl, rfl⟩)))) (hb hby d4_56) hr
  ·show QC3_2 Z r0 c0 c1 ks cst fv h0 n0 _ T18.heap _
   rw [eh18]
   exact Or.inr ⟨b13, kb13, rfl, N18, kp17, g_b13, szk13, (Or.inl hq7_0), V13⟩
 ·skip
  have N7 := Fr.app N0 N7q
  have fa21 := fa2.keep K7 (ninS ne_r0_b1 nin0)
  have fa22 := fa3.keep K7 (allS g_b1 all0)
  have z23 : n0 ≤ T7.heap.size := Nat.le_trans z4 K7.1
  have kp24 : Keep h0 T7.heap [] := kp5.trans K7 (allS (Or.inr sz_b1) all0)
  have G25 : ∀ t, Steps p.tables e below (T7.setTop (mkF m 17 #[rv r0, iv 0, iv 2, rv b1, iv 1, .unset] [(.int (2 : Int32)), (.int (1 : Int32))])) t → Steps p.tables e below (s₁.setTop (entryFrame m #[(.ref r0), (.int (0 : Int32)), (.int (2 : Int32))] 6)) t := by
   intro t kt
   refine G0 _ ?_
   refine XS.iloadN X0.here hx rfl (hb hby d4_0) rfl ?_
   refine st1 _ ?_
   refine XS.astoreN X1.here hx rfl (hb hby d4_3) rfl rfl (l' := #[rv r0, iv 0, iv 2, rv b1, .unset, .unset]) rfl ?_
   refine XS.aloadN X1.here hx rfl (hb hby d4_4) rfl rfl ?_
   refine XS.iloadN X1.here hx rfl (hb hby d4_5) rfl ?_
   refine XS.aloadN X1.here hx rfl (hb hby d4_6) rfl rfl ?_
   refine XS.iconst X1.here hx rfl (hb hby d4_7) ?_
   refine XS.iloadN X1.here hx rfl (hb hby d4_8) rfl ?_
   refine st7 _ ?_
   refine XS.istore X7.here hx rfl (hb hby d4_12) rfl (l' := #[rv r0, iv 0, iv 2, rv b1, iv 1, .unset]) rfl ?_
   refine XS.iload X7.here hx rfl (hb hby d4_14) rfl ?_
   refine XS.iloadN X7.here hx rfl (hb hby d4_16) rfl ?_
   exact kt
  obtain ⟨_, _, ⟨T26, L26, k26, n26⟩, -, X26, ⟨Lc26, hQ26, l26, y26, z26⟩, st26⟩ := Jvm.LawKit.callS X7 hx (y := (⟨"java/lang/StringUTF16", "toBytes", "([CII)[B"⟩ : MethodName)) hown (mvT hZ (hq hw 73 rfl)) (mvT hZ (hq hw 74 rfl)) (mvT hZ (hq hw 17 rfl)) (mvT hZ (hq hw 75 rfl)) (by decide) (backOf (W := 0) (rmTB_2 l Z a0 hw [] r0 c0 c1 ks cst fv T7.heap n0 z23 fa21 fa22 SS) hZ (hq hw 75 rfl) (hq hw 17 rfl) (by decide) (by decide)) (g := (mkF m 23 #[rv r0, iv 0, iv 2, rv b1, iv 1, .unset] [(.int (2 : Int32)), (.int (0 : Int32)), (.ref r0)])) rfl (by rw [hml]; rfl) (argsL := [(.ref r0), (.int (0 : Int32)), (.int (2 : Int32))]) (rest := []) (lenOf pd_11 rfl) rfl (by show 2 * 0 + _ ≤ _; exact Nat.le_of_eq rfl) (hb hby d4_23) (fun _ _ => ⟨rfl, rfl, (by decide : 1 + 1 ≤ _), (by decide : 2 + 4 ≤ _)⟩)
  dsimp only [Pt.U, Pt.locs, Pt.cells, Pt.slots] at X26 l26 y26 z26 st26 hQ26
  subst l26 y26 z26
  obtain ⟨b26, kb26, rfl, N26q, K26, g_b26, sz26, V26⟩ := hQ26
  have N26 := Fr.app N7 N26q
  have szk26 : h0.size ≤ b26 := Nat.le_trans kp24.1 sz26
  have ne_r0_b26 : r0 ≠ b26 := Nat.ne_of_lt (Nat.lt_of_lt_of_le fa21.lt sz26)
  have fa27 := fa21.keep K26 nin0
  have fa28 := fa22.keep K26 all0
  have z29 : n0 ≤ T26.heap.size := Nat.le_trans z23 K26.1
  have kp30 : Keep h0 T26.heap [] := kp24.trans K26 all0
  obtain ⟨_, _, ⟨T31, L31, k31, n31⟩, -, X31, ⟨Lc31, hQ31, l31, y31, z31⟩, st31⟩ := Jvm.LawKit.callS X26 hx (y := (⟨"java/lang/StringUTF16", "getChar", "([BI)C"⟩ : MethodName)) hown (mvT hZ (hq hw 89 rfl)) (mvT hZ (hq hw 90 rfl)) (mvT hZ (hq hw 17 rfl)) (mvT hZ (hq hw 91 rfl)) (by decide) (backOf (W := 0) (rm20 l Z a0 hw [] b26 (1 : Int32) kb26 (4 : Int32) [(.int (nar .byte ((c0 >>> ((0 : Int32) &&& 31)).toInt8.toInt32))), (.int (nar .byte ((c0 >>> ((8 : Int32) &&& 31)).toInt8.toInt32))), (.int (nar .byte ((c1 >>> ((0 : Int32) &&& 31)).toInt8.toInt32))), (.int (nar .byte ((c1 >>> ((8 : Int32) &&& 31)).toInt8.toInt32)))] (nar .byte ((c1 >>> ((0 : Int32) &&& 31)).toInt8.toInt32)) (nar .byte ((c1 >>> ((8 : Int32) &&& 31)).toInt8.toInt32)) cst fv T26.heap n0 z29 V26 fa28 (by decide) (by decide) rfl rfl SS) hZ (hq hw 91 rfl) (hq hw 17 rfl) (by decide) (by decide)) (g := (mkF m 32 #[rv r0, iv 0, iv 2, rv b1, iv 1, rv b26] [(.int (1 : Int32)), (.ref b26)])) rfl (by rw [hml]; rfl) (argsL := [(.ref b26), (.int (1 : Int32))]) (rest := []) (lenOf pd_5 rfl) rfl (by show 2 * 0 + _ ≤ _; exact Nat.le_of_eq rfl) (hb hby d4_32) (fun _ _ => ⟨rfl, rfl, (by decide : 2 + 0 ≤ _), (by decide : 6 + 0 ≤ _)⟩)
  dsimp only [Pt.U, Pt.locs, Pt.cells, Pt.slots] at X31 l31 y31 z31 st31 hQ31
  subst l31 y31 z31
  obtain ⟨rfl, N31q, eh31⟩ := hQ31
  have N31 := Fr.app N26 N31q
  have G32 : ∀ t, Steps p.tables e below (T31.setTop (mkF m 38 #[rv r0, iv 0, iv 2, rv b1, iv 1, rv b26] [(.int (255 : Int32)), (.int (fget (nar .byte ((c1 >>> ((0 : Int32) &&& 31)).toInt8.toInt32)) (nar .byte ((c1 >>> ((8 : Int32) &&& 31)).toInt8.toInt32))))])) t → Steps p.tables e below (s₁.setTop (entryFrame m #[(.ref r0), (.int (0 : Int32)), (.int (2 : Int32))] 6)) t := by
   intro t kt
   refine G25 _ ?_
   refine XS.icmpNo X7.here hx rfl (hb hby d4_17) rfl (feq (by decide)).1 ?_
   refine XS.aloadN X7.here hx rfl (hb hby d4_20) rfl rfl ?_
   refine XS.iloadN X7.here hx rfl (hb hby d4_21) rfl ?_
   refine XS.iloadN X7.here hx rfl (hb hby d4_22) rfl ?_
   refine st26 _ ?_
   refine XS.astore X26.here hx rfl (hb hby d4_26) rfl rfl (l' := #[rv r0, iv 0, iv 2, rv b1, iv 1, rv b26]) rfl ?_
   refine XS.aload X26.here hx rfl (hb hby d4_28) rfl rfl ?_
   refine XS.iload X26.here hx rfl (hb hby d4_30) rfl ?_
   show Steps p.tables e below (T26.setTop (mkF m 32 #[rv r0, iv 0, iv 2, rv b1, iv 1, rv b26] [(.int (1 : Int32)), (.ref b26)])) _
   refine st31 _ ?_
   refine XS.sipush X31.here hx rfl (hb hby d4_35) ?_
   exact kt
  have hc38_33 : (255 : Int32) < (fget (nar .byte ((c1 >>> ((0 : Int32) &&& 31)).toInt8.toInt32)) (nar .byte ((c1 >>> ((8 : Int32) &&& 31)).toInt8.toInt32))) := by rw [own_u16 c1 hb1]; exact hq7_1
  obtain ⟨fs, hr, hrun, hended, hW, hsame⟩ := X31.leave (v := some (.ref b26)) (fun h => by rw [Bd.returns] at h; cases h)
  refine ⟨_, _, G32 _ ?_, hrun, hended, _, _, rfl, ?_, ⟨_, rfl⟩, hW, hsame.mono (by decide) (by decide)⟩
  ·skip
   refine XS.icmpYes X31.here hx rfl (pc0 := 38) (pc' := 54) rfl (hb hby d4_38) rfl (tlt hc38_33).2.2.1 (by decide) (by decide) ?_
   refine XS.aload X31.here hx rfl (hb hby d4_54) rfl rfl ?_
   exact retOut X31 hx Bd.returns rfl (Or.inr (Or.inr (Or.inr (Or.inr ⟨rfl, rfl, rfl⟩)))) (hb hby d4_56) hr
  ·show QC3_2 Z r0 c0 c1 ks cst fv h0 n0 _ T31.heap _
   rw [eh31]
   exact Or.inr ⟨b26, kb26, rfl, N31, kp30, g_b26, szk26, (Or.inr (hq7_1)), V26⟩
 ·skip
  have N7 := Fr.app N0 N7q
  have fa34 := fa2.keep K7 (ninS ne_r0_b1 nin0)
  have fa35 := fa3.keep K7 (allS g_b1 all0)
  have z36 : n0 ≤ T7.heap.size := Nat.le_trans z4 K7.1
  have kp37 : Keep h0 T7.heap [] := kp5.trans K7 (allS (Or.inr sz_b1) all0)
  have G38 : ∀ t, Steps p.tables e below (T7.setTop (mkF m 17 #[rv r0, iv 0, iv 2, rv b1, iv 2, .unset] [(.int (2 : Int32)), (.int (2 : Int32))])) t → Steps p.tables e below (s₁.setTop (entryFrame m #[(.ref r0), (.int (0 : Int32)), (.int (2 : Int32))] 6)) t := by
   intro t kt
   refine G0 _ ?_
   refine XS.iloadN X0.here hx rfl (hb hby d4_0) rfl ?_
   refine st1 _ ?_
   refine XS.astoreN X1.here hx rfl (hb hby d4_3) rfl rfl (l' := #[rv r0, iv 0, iv 2, rv b1, .unset, .unset]) rfl ?_
   refine XS.aloadN X1.here hx rfl (hb hby d4_4) rfl rfl ?_
   refine XS.iloadN X1.here hx rfl (hb hby d4_5) rfl ?_
   refine XS.aloadN X1.here hx rfl (hb hby d4_6) rfl rfl ?_
   refine XS.iconst X1.here hx rfl (hb hby d4_7) ?_
   refine XS.iloadN X1.here hx rfl (hb hby d4_8) rfl ?_
   refine st7 _ ?_
   refine XS.istore X7.here hx rfl (hb hby d4_12) rfl (l' := #[rv r0, iv 0, iv 2, rv b1, iv 2, .unset]) rfl ?_
   refine XS.iload X7.here hx rfl (hb hby d4_14) rfl ?_
   refine XS.iloadN X7.here hx rfl (hb hby d4_16) rfl ?_
   exact kt
  obtain ⟨fs, hr, hrun, hended, hW, hsame⟩ := X7.leave (v := some (.ref b1)) (fun h => by rw [Bd.returns] at h; cases h)
  refine ⟨_, _, G38 _ ?_, hrun, hended, _, _, rfl, ?_, ⟨_, rfl⟩, hW, hsame.mono (by decide) (by decide)⟩
  ·skip
   refine XS.icmpYes X7.here hx rfl (pc0 := 17) (pc' := 57) rfl (hb hby d4_17) rfl (teq (by decide)).1 (by decide) (by decide) ?_
   refine XS.aloadN X7.here hx rfl (hb hby d4_57) rfl rfl ?_
   exact retOut X7 hx Bd.returns rfl (Or.inr (Or.inr (Or.inr (Or.inr ⟨rfl, rfl, rfl⟩)))) (hb hby d4_58) hr
  ·show QC3_2 Z r0 c0 c1 ks cst fv h0 n0 _ T7.heap _
   exact Or.inl ⟨b1, k1, rfl, N7, kp37, g_b1, sz_b1, ⟨hq7_0, hq7_1⟩, V7⟩
def QCF_2_2 (Z : State) (r0 : Addr) (kk : ClassId) (vs : List Value) (h0 : Heap) (n0 : Nat) (v : Option Value) (h : Heap) (L : List Loc) : Prop := v = some (.int (0 : Int32)) ∧ Fr n0 L ∧ h = h0
theorem ef_rmCF_2_2 (m : MethodId) (x0 : Addr) (x1 : Int32) : entryFrame m #[(.ref x0), (.int x1)] 2 = mkF m 0 #[.val (.ref x0), .val (.int x1)] [] := by first | (simp [entryFrame, mkF, argsToLocals, Value.category]; done) | rfl
set_option maxRecDepth 65536 in
set_option maxHeartbeats 40000000 in
theorem rmCF_2_2 (l : Launch) (Z : State) (a0 : Array Value) (hw : ∀ d ∈ tables_1, d.before a0 Z = true) (ws : List Jvm.Cond) (r0 : Addr) (kk : ClassId) (vs : List Value) (h0 : Heap) (n0 : Nat) (Z0 : n0 ≤ h0.size) (V0 : Arv Z h0 r0 kk .byte (2 : Int32) vs (.int (0 : Int32))) :
  MetFree l (⟨"java/lang/StringUTF16", "coderFromArrayLen", "([BI)B"⟩ : MethodName) (head1 (Jvm.Cond.code (⟨"java/lang/StringUTF16", "coderFromArrayLen", "([BI)B"⟩ : MethodName) jdk_52_method_15_code 2 (some .byte) :: ws) ({ frames := 0, cells := 0, slots := 0, locals := 0 } : Room)) (fun a U => a = #[(.ref r0), (.int (2 : Int32))] ∧ Z.Warmed39 U.vm ∧ U.heap = h0) (fun _ _ _ _ _ => True) (fun _ U o U' => ∃ v L, o = .returned v ∧ QCF_2_2 Z r0 kk vs h0 n0 v U'.heap L ∧ FrameEnd U o U' L ({ frames := 0, cells := 0, slots := 0, locals := 0 } : Room).cells ({ frames := 0, cells := 0, slots := 0, locals := 0 } : Room).slots) := by
 refine MetFree.of_bodySF (plainFor_of_name pnc_java_lang_StringUTF16) hisR ?_
 intro p e s m args below meth c s₁ Bd hml0 hP hK
 obtain ⟨rfl, hZ, hh⟩ := hP
 have hx := Bd.exec
 have hby := Bd.bytes
 have hml : c.maxLocals = 2 := hml0
 have hown : s.vm.findClass "java/lang/StringUTF16" = some m.cls := findClass_of_methodNamed Bd.named
 have hnm := (name_of_methodNamed Bd.named Bd.method).1
 have X0 : Stand p l e ({ frames := 0, cells := 0, slots := 0, locals := 0 } : Room) s m #[(.ref r0), (.int (2 : Int32))] below meth c s₁ [] 0 0 := Stand.of_body Bd
 have e0 : s₁.heap = h0 := by rw [← hh, Bd.state]; rfl
 have N0 := Fr.nil n0
 have kp0 : Keep h0 h0 [] := Keep.refl _ _
 have G0 : ∀ t, Steps p.tables e below (s₁.setTop (mkF m 0 #[rv r0, iv 2] [])) t → Steps p.tables e below (s₁.setTop (entryFrame m #[(.ref r0), (.int (2 : Int32))] 2)) t := fun t k => castTop (ef_rmCF_2_2 m r0 (2 : Int32)) k
 obtain ⟨cl1, Ar1, q1, S1, M1, H1, G1⟩ := id V0
 obtain ⟨fs, hr, hrun, hended, hW, hsame⟩ := X0.leave (v := some (.int (0 : Int32))) (fun h => by rw [Bd.returns] at h; cases h)
 refine ⟨_, _, G0 _ ?_, hrun, hended, _, _, rfl, ?_, ⟨_, rfl⟩, hW, hsame.mono (by decide) (by decide)⟩
 ·skip
  refine XS.iloadN X0.here hx rfl (hb hby d6_0) rfl ?_
  refine XS.aloadN X0.here hx rfl (hb hby d6_1) rfl rfl ?_
  refine X0.arraylength hx (by rw [e0]; exact Ar1.1) (State.isArrayOf_alike hZ.alike Ar1.2.1) (g := (mkF m 2 #[rv r0, iv 2] [(.ref r0), (.int (2 : Int32))])) rfl rfl (hb hby d6_2) _ ?_
  rw [len_of S1 M1]
  refine XS.isub X0.here hx rfl (hb hby d6_3) rfl ?_
  refine XS.bipush X0.here hx rfl (hb hby d6_4) ?_
  refine XS.iushr X0.here hx rfl (hb hby d6_6) rfl ?_
  refine XS.i2b X0.here hx rfl (hb hby d6_7) rfl ?_
  exact retN X0 hx (t := .byte) Bd.returns (by simp) (hb hby d6_8) hr
 ·show QCF_2_2 Z r0 kk vs h0 n0 _ s₁.heap _
  rw [e0]
  exact ⟨rfl, N0, rfl⟩
def QCF_2_4 (Z : State) (r0 : Addr) (kk : ClassId) (vs : List Value) (h0 : Heap) (n0 : Nat) (v : Option Value) (h : Heap) (L : List Loc) : Prop := v = some (.int (1 : Int32)) ∧ Fr n0 L ∧ h = h0
theorem ef_rmCF_2_4 (m : MethodId) (x0 : Addr) (x1 : Int32) : entryFrame m #[(.ref x0), (.int x1)] 2 = mkF m 0 #[.val (.ref x0), .val (.int x1)] [] := by first | (simp [entryFrame, mkF, argsToLocals, Value.category]; done) | rfl
set_option maxRecDepth 65536 in
set_option maxHeartbeats 40000000 in
theorem rmCF_2_4 (l : Launch) (Z : State) (a0 : Array Value) (hw : ∀ d ∈ tables_1, d.before a0 Z = true) (ws : List Jvm.Cond) (r0 : Addr) (kk : ClassId) (vs : List Value) (h0 : Heap) (n0 : Nat) (Z0 : n0 ≤ h0.size) (V0 : Arv Z h0 r0 kk .byte (4 : Int32) vs (.int (0 : Int32))) :
  MetFree l (⟨"java/lang/StringUTF16", "coderFromArrayLen", "([BI)B"⟩ : MethodName) (head1 (Jvm.Cond.code (⟨"java/lang/StringUTF16", "coderFromArrayLen", "([BI)B"⟩ : MethodName) jdk_52_method_15_code 2 (some .byte) :: ws) ({ frames := 0, cells := 0, slots := 0, locals := 0 } : Room)) (fun a U => a = #[(.ref r0), (.int (2 : Int32))] ∧ Z.Warmed39 U.vm ∧ U.heap = h0) (fun _ _ _ _ _ => True) (fun _ U o U' => ∃ v L, o = .returned v ∧ QCF_2_4 Z r0 kk vs h0 n0 v U'.heap L ∧ FrameEnd U o U' L ({ frames := 0, cells := 0, slots := 0, locals := 0 } : Room).cells ({ frames := 0, cells := 0, slots := 0, locals := 0 } : Room).slots) := by
 refine MetFree.of_bodySF (plainFor_of_name pnc_java_lang_StringUTF16) hisR ?_
 intro p e s m args below meth c s₁ Bd hml0 hP hK
 obtain ⟨rfl, hZ, hh⟩ := hP
 have hx := Bd.exec
 have hby := Bd.bytes
 have hml : c.maxLocals = 2 := hml0
 have hown : s.vm.findClass "java/lang/StringUTF16" = some m.cls := findClass_of_methodNamed Bd.named
 have hnm := (name_of_methodNamed Bd.named Bd.method).1
 have X0 : Stand p l e ({ frames := 0, cells := 0, slots := 0, locals := 0 } : Room) s m #[(.ref r0), (.int (2 : Int32))] below meth c s₁ [] 0 0 := Stand.of_body Bd
 have e0 : s₁.heap = h0 := by rw [← hh, Bd.state]; rfl
 have N0 := Fr.nil n0
 have kp0 : Keep h0 h0 [] := Keep.refl _ _
 have G0 : ∀ t, Steps p.tables e below (s₁.setTop (mkF m 0 #[rv r0, iv 2] [])) t → Steps p.tables e below (s₁.setTop (entryFrame m #[(.ref r0), (.int (2 : Int32))] 2)) t := fun t k => castTop (ef_rmCF_2_4 m r0 (2 : Int32)) k
 obtain ⟨cl1, Ar1, q1, S1, M1, H1, G1⟩ := id V0
 obtain ⟨fs, hr, hrun, hended, hW, hsame⟩ := X0.leave (v := some (.int (1 : Int32))) (fun h => by rw [Bd.returns] at h; cases h)
 refine ⟨_, _, G0 _ ?_, hrun, hended, _, _, rfl, ?_, ⟨_, rfl⟩, hW, hsame.mono (by decide) (by decide)⟩
 ·skip
  refine XS.iloadN X0.here hx rfl (hb hby d6_0) rfl ?_
  refine XS.aloadN X0.here hx rfl (hb hby d6_1) rfl rfl ?_
  refine X0.arraylength hx (by rw [e0]; exact Ar1.1) (State.isArrayOf_alike hZ.alike Ar1.2.1) (g := (mkF m 2 #[rv r0, iv 2] [(.ref r0), (.int (2 : Int32))])) rfl rfl (hb hby d6_2) _ ?_
  rw [len_of S1 M1]
  refine XS.isub X0.here hx rfl (hb hby d6_3) rfl ?_
  refine XS.bipush X0.here hx rfl (hb hby d6_4) ?_
  refine XS.iushr X0.here hx rfl (hb hby d6_6) rfl ?_
  refine XS.i2b X0.here hx rfl (hb hby d6_7) rfl ?_
  exact retN X0 hx (t := .byte) Bd.returns (by simp) (hb hby d6_8) hr
 ·show QCF_2_4 Z r0 kk vs h0 n0 _ s₁.heap _
  rw [e0]
  exact ⟨rfl, N0, rfl⟩
def QSE_2 (Z : State) (r0 : Addr) (r1 : Addr) (c0 c1 : Int32) (ks : ClassId) (cst : Int32) (fv : Value) (h0 : Heap) (n0 : Nat) (v : Option Value) (h : Heap) (L : List Loc) : Prop := (v = none ∧ Fr n0 L ∧ Keep h0 h [r0] ∧ Exa Z h r0 "java/lang/String" ∧ (¬ ((255 : Int32) < c0) ∧ ¬ ((255 : Int32) < c1)) ∧ Fld Z h r0 "java/lang/String" "coder" "B" (.int (0 : Int32)) ∧ ∃ (t : Addr) (k : ClassId), Fld Z h r0 "java/lang/String" "value" "[B" (.ref t) ∧ h0.size ≤ t ∧ n0 ≤ t ∧ Arv Z h t k .byte (2 : Int32) [(.int (nar .byte (c0.toInt8.toInt32))), (.int (nar .byte (c1.toInt8.toInt32)))] (.int (0 : Int32))) ∨ (v = none ∧ Fr n0 L ∧ Keep h0 h [r0] ∧ Exa Z h r0 "java/lang/String" ∧ ((255 : Int32) < c0 ∨ (255 : Int32) < c1) ∧ Fld Z h r0 "java/lang/String" "coder" "B" (.int (1 : Int32)) ∧ ∃ (t : Addr) (k : ClassId), Fld Z h r0 "java/lang/String" "value" "[B" (.ref t) ∧ h0.size ≤ t ∧ n0 ≤ t ∧ Arv Z h t k .byte (4 : Int32) [(.int (nar .byte ((c0 >>> ((0 : Int32) &&& 31)).toInt8.toInt32))), (.int (nar .byte ((c0 >>> ((8 : Int32) &&& 31)).toInt8.toInt32))), (.int (nar .byte ((c1 >>> ((0 : Int32) &&& 31)).toInt8.toInt32))), (.int (nar .byte ((c1 >>> ((8 : Int32) &&& 31)).toInt8.toInt32)))] (.int (0 : Int32)))
theorem ef_rmSE_2 (m : MethodId) (x0 : Addr) (x1 : Addr) (x2 : Int32) (x3 : Int32) : entryFrame m #[(.ref x0), (.ref x1), (.int x2), (.int x3), .null] 6 = mkF m 0 #[.val (.ref x0), .val (.ref x1), .val (.int x2), .val (.int x3), .val .null, .unset] [] := by first | (simp [entryFrame, mkF, argsToLocals, Value.category]; done) | rfl
set_option maxRecDepth 65536 in
set_option maxHeartbeats 40000000 in
theorem rmSE_2 (l : Launch) (Z : State) (a0 : Array Value) (hw : ∀ d ∈ tables_1, d.before a0 Z = true) (ws : List Jvm.Cond) (r0 : Addr) (r1 : Addr) (c0 c1 : Int32) (ks : ClassId) (cst : Int32) (fv : Value) (h0 : Heap) (n0 : Nat) (Z0 : n0 ≤ h0.size) (E0 : Exa Z h0 r0 "java/lang/String") (Fv : Fld Z h0 r0 "java/lang/String" "value" "[B" .null) (Fc : Fld Z h0 r0 "java/lang/String" "coder" "B" (.int (0 : Int32))) (Vs : Arv Z h0 r1 ks .char (2 : Int32) [(.int c0), (.int c1)] (.int (0 : Int32))) (O0 : Old Z n0 h0) (g_r0 : n0 ≤ r0) (hne : r0 ≠ r1) (hb0 : 0 ≤ c0.toInt ∧ c0.toInt ≤ 65535) (hb1 : 0 ≤ c1.toInt ∧ c1.toInt ≤ 65535) (SS : Sts Z cst fv) :
  MetFree l (⟨"java/lang/String", "<init>", "([CIILjava/lang/Void;)V"⟩ : MethodName) (head1 (Jvm.Cond.code (⟨"java/lang/String", "<init>", "([CIILjava/lang/Void;)V"⟩ : MethodName) jdk_42_method_149_code 6 none :: ws) ({ frames := 4, cells := 2, slots := 6, locals := 57 } : Room)) (fun a U => a = #[(.ref r0), (.ref r1), (.int (0 : Int32)), (.int (2 : Int32)), .null] ∧ Z.Warmed39 U.vm ∧ U.heap = h0) (fun _ _ _ _ _ => True) (fun _ U o U' => ∃ v L, o = .returned v ∧ QSE_2 Z r0 r1 c0 c1 ks cst fv h0 n0 v U'.heap L ∧ FrameEnd U o U' L ({ frames := 4, cells := 2, slots := 6, locals := 57 } : Room).cells ({ frames := 4, cells := 2, slots := 6, locals := 57 } : Room).slots) := by
 refine MetFree.of_bodySF (plainFor_of_name pnc_java_lang_String) hisR ?_
 intro p e s m args below meth c s₁ Bd hml0 hP hK
 obtain ⟨rfl, hZ, hh⟩ := hP
 have hx := Bd.exec
 have hby := Bd.bytes
 have hml : c.maxLocals = 6 := hml0
 have hown : s.vm.findClass "java/lang/String" = some m.cls := findClass_of_methodNamed Bd.named
 have hnm := (name_of_methodNamed Bd.named Bd.method).1
 have X0 : Stand p l e ({ frames := 4, cells := 2, slots := 6, locals := 57 } : Room) s m #[(.ref r0), (.ref r1), (.int (0 : Int32)), (.int (2 : Int32)), .null] below meth c s₁ [] 0 0 := Stand.of_body Bd
 have e0 : s₁.heap = h0 := by rw [← hh, Bd.state]; rfl
 have N0 := Fr.nil n0
 have kp0 : Keep h0 h0 [r0] := Keep.refl _ _
 have G0 : ∀ t, Steps p.tables e below (s₁.setTop (mkF m 0 #[rv r0, rv r1, iv 0, iv 2, .val .null, .unset] [])) t → Steps p.tables e below (s₁.setTop (entryFrame m #[(.ref r0), (.ref r1), (.int (0 : Int32)), (.int (2 : Int32)), .null] 6)) t := fun t k => castTop (ef_rmSE_2 m r0 r1 (0 : Int32) (2 : Int32)) k
 obtain ⟨T1, X1, e1, st1⟩ := initO X0 hx hZ hown (hq hw 11 rfl) (hq hw 12 rfl) (hq hw 13 rfl) e0 (g := (mkF m 1 #[rv r0, rv r1, iv 0, iv 2, .val .null, .unset] [(.ref r0)])) rfl (by rw [hml]; rfl) rfl (hb hby d2_1) (by decide) (W := 0) (by show 2 * 0 + _ ≤ _; exact Nat.le_of_eq rfl) (by decide)
 have G2 : ∀ t, Steps p.tables e below (T1.setTop (mkF m 5 #[rv r0, rv r1, iv 0, iv 2, .val .null, .unset] [(.int (2 : Int32))])) t → Steps p.tables e below (s₁.setTop (entryFrame m #[(.ref r0), (.ref r1), (.int (0 : Int32)), (.int (2 : Int32)), .null] 6)) t := by
  intro t kt
  refine G0 _ ?_
  refine XS.aloadN X0.here hx rfl (hb hby d2_0) rfl rfl ?_
  refine st1 _ ?_
  refine XS.iloadN X1.here hx rfl (hb hby d2_4) rfl ?_
  exact kt
 obtain ⟨T3, X3, e3, st3⟩ := getS2 X1 hx hZ hown (host := "") (Or.inl (hq hw 14 rfl)) Via.refl e1 (SS.1.ext O0.2) (g := (mkF m 27 #[rv r0, rv r1, iv 0, iv 2, .val .null, .unset] [])) rfl (hb hby d2_27)
 have G4 : ∀ t, Steps p.tables e below (T3.setTop (mkF m 30 #[rv r0, rv r1, iv 0, iv 2, .val .null, .unset] [(.int cst)])) t → Steps p.tables e below (s₁.setTop (entryFrame m #[(.ref r0), (.ref r1), (.int (0 : Int32)), (.int (2 : Int32)), .null] 6)) t := by
  intro t kt
  refine G2 _ ?_
  refine XS.ifYes X1.here hx rfl (pc0 := 5) (pc' := 27) rfl (hb hby d2_5) rfl ((if0 _ _).trans (feq (by decide)).2) (by decide) (by decide) ?_
  refine st3 _ ?_
  exact kt
 have hc30_5 : ¬ (cst = (0 : Int32)) := SS.2.1
 obtain ⟨_, _, ⟨T6, L6, k6, n6⟩, -, X6, ⟨Lc6, hQ6, l6, y6, z6⟩, st6⟩ := Jvm.LawKit.callS X3 hx (y := (⟨"java/lang/StringUTF16", "compress", "([CII)[B"⟩ : MethodName)) hown (mvT hZ (hq hw 15 rfl)) (mvT hZ (hq hw 16 rfl)) (mvT hZ (hq hw 17 rfl)) (mvT hZ (hq hw 18 rfl)) (by decide) (backOf (W := 0) (rmC3_2 l Z a0 hw [] r1 c0 c1 ks cst fv h0 n0 Z0 Vs O0 hb0 hb1 SS) hZ (hq hw 18 rfl) (hq hw 17 rfl) (by decide) (by decide)) (g := (mkF m 36 #[rv r0, rv r1, iv 0, iv 2, .val .null, .unset] [(.int (2 : Int32)), (.int (0 : Int32)), (.ref r1)])) rfl (by rw [hml]; rfl) (argsL := [(.ref r1), (.int (0 : Int32)), (.int (2 : Int32))]) (rest := []) (lenOf pd_11 rfl) rfl (by show 2 * 0 + _ ≤ _; exact Nat.le_of_eq rfl) (hb hby d2_36) (fun _ _ => ⟨rfl, e3, (by decide : 0 + 2 ≤ _), (by decide : 0 + 6 ≤ _)⟩)
 dsimp only [Pt.U, Pt.locs, Pt.cells, Pt.slots] at X6 l6 y6 z6 st6 hQ6
 subst l6 y6 z6
 rcases hQ6 with ⟨b6, kb6, rfl, N6q, K6, g_b6, sz6, hq6, V6⟩ | ⟨b6, kb6, rfl, N6q, K6, g_b6, sz6, hq6, V6⟩
 ·skip
  have N6 := Fr.app N0 N6q
  have szk6 : h0.size ≤ b6 := Nat.le_trans kp0.1 sz6
  have ne_r0_b6 : r0 ≠ b6 := Nat.ne_of_lt (Nat.lt_of_lt_of_le E0.lt sz6)
  have ne_r1_b6 : r1 ≠ b6 := Nat.ne_of_lt (Nat.lt_of_lt_of_le Vs.lt sz6)
  have fa7 := E0.keep K6
  have fa8 := Fv.keep K6 nin0
  have fa9 := Fc.keep K6 nin0
  have fa10 := Vs.keep K6 nin0
  have fa11 := O0.keep K6 all0
  have z12 : n0 ≤ T6.heap.size := Nat.le_trans Z0 K6.1
  have kp13 : Keep h0 T6.heap [r0] := kp0.trans K6 all0
  obtain ⟨_, _, ⟨T14, L14, k14, n14⟩, -, X14, ⟨Lc14, hQ14, l14, y14, z14⟩, st14⟩ := Jvm.LawKit.callS X6 hx (y := (⟨"java/lang/StringUTF16", "coderFromArrayLen", "([BI)B"⟩ : MethodName)) hown (mvT hZ (hq hw 23 rfl)) (mvT hZ (hq hw 24 rfl)) (mvT hZ (hq hw 17 rfl)) (mvT hZ (hq hw 25 rfl)) (by decide) (backOf (W := 1) (rmCF_2_2 l Z a0 hw [] b6 kb6 [(.int (nar .byte (c0.toInt8.toInt32))), (.int (nar .byte (c1.toInt8.toInt32)))] T6.heap n0 z12 V6) hZ (hq hw 25 rfl) (hq hw 17 rfl) (by decide) (by decide)) (g := (mkF m 45 #[rv r0, rv r1, iv 0, iv 2, .val .null, rv b6] [(.int (2 : Int32)), (.ref b6), (.ref r0)])) rfl (by rw [hml]; rfl) (argsL := [(.ref b6), (.int (2 : Int32))]) (rest := [(.ref r0)]) (lenOf pd_12 rfl) rfl (by show 2 * 0 + _ ≤ _; exact Nat.le_of_eq rfl) (hb hby d2_45) (fun _ _ => ⟨rfl, rfl, (by decide : 2 + 0 ≤ _), (by decide : 6 + 0 ≤ _)⟩)
  dsimp only [Pt.U, Pt.locs, Pt.cells, Pt.slots] at X14 l14 y14 z14 st14 hQ14
  subst l14 y14 z14
  obtain ⟨rfl, N14q, eh14⟩ := hQ14
  have N14 := Fr.app N6 N14q
  obtain ⟨T15, h15, X15, e15, W15, st15⟩ := putFN X14 hx hZ hown (hq hw 26 rfl) Via.refl eh14 fa9 fa7 (Or.inr ⟨(hq hw 27 rfl), rfl, hnm⟩) (hq hw 2 rfl) (ty := .byte) (v' := (.int (0 : Int32))) (by decide) rfl (fits_nar_byte (0 : Int32)) (g := (mkF m 48 #[rv r0, rv r1, iv 0, iv 2, .val .null, rv b6] [(.int (0 : Int32)), (.ref r0)])) rfl rfl (hb hby d2_48)
  have fa16 := fa7.wr W15
  have fa17 := fa8.other W15 (Or.inr (slot_ne (Or.inr (hq hw 29 rfl)) (Or.inr (hq hw 27 rfl)) (by decide) (t := (.array .byte)) (t' := .byte) (by decide) (by decide)))
  have fa18 : Fld Z h15 r0 "java/lang/String" "coder" "B" (.int (0 : Int32)) := fa9.same W15
  have fa19 := fa10.other W15 (Ne.symm hne)
  have fa20 := fa11.wr W15 g_r0
  have fa21 := V6.other W15 (Ne.symm ne_r0_b6)
  have z22 : n0 ≤ h15.size := Nat.le_trans z12 (Nat.le_of_eq W15.size.symm)
  have kp23 : Keep h0 h15 [r0] := kp13.wr W15 (Or.inl (List.mem_of_getElem? (i := 0) rfl))
  have N15 := Fr.snoc X15 N14 g_r0
  obtain ⟨T24, h24, X24, e24, W24, st24⟩ := putF X15 hx hZ hown (host := "") (Or.inl (hq hw 28 rfl)) Via.refl e15 fa17 fa16 (Or.inr ⟨(hq hw 29 rfl), rfl, hnm⟩) (hq hw 2 rfl) (ty := (.array .byte)) (by decide) rfl rfl (g := (mkF m 54 #[rv r0, rv r1, iv 0, iv 2, .val .null, rv b6] [(.ref b6), (.ref r0)])) rfl rfl (hb hby d2_54)
  have fa25 := fa16.wr W24
  have fa26 : Fld Z h24 r0 "java/lang/String" "value" "[B" (.ref b6) := fa17.same W24
  have fa27 := fa18.other W24 (Or.inr (slot_ne (Or.inr (hq hw 27 rfl)) (Or.inr (hq hw 29 rfl)) (by decide) (t := .byte) (t' := (.array .byte)) (by decide) (by decide)))
  have fa28 := fa19.other W24 (Ne.symm hne)
  have fa29 := fa20.wr W24 g_r0
  have fa30 := fa21.other W24 (Ne.symm ne_r0_b6)
  have z31 : n0 ≤ h24.size := Nat.le_trans z22 (Nat.le_of_eq W24.size.symm)
  have kp32 : Keep h0 h24 [r0] := kp23.wr W24 (Or.inl (List.mem_of_getElem? (i := 0) rfl))
  have N24 := Fr.snoc X24 N15 g_r0
  obtain ⟨fs, hr, hrun, hended, hW, hsame⟩ := X24.leave (v := none) (fun _ => rfl)
  refine ⟨_, _, G4 _ ?_, hrun, hended, _, _, rfl, ?_, ⟨_, rfl⟩, hW, hsame.mono (by decide) (by decide)⟩
  ·skip
   refine XS.ifNo X3.here hx rfl (hb hby d2_30) rfl ((if0 _ _).trans (feq hc30_5).1) ?_
   refine XS.aloadN X3.here hx rfl (hb hby d2_33) rfl rfl ?_
   refine XS.iloadN X3.here hx rfl (hb hby d2_34) rfl ?_
   refine XS.iloadN X3.here hx rfl (hb hby d2_35) rfl ?_
   refine st6 _ ?_
   refine XS.astore X6.here hx rfl (hb hby d2_39) rfl rfl (l' := #[rv r0, rv r1, iv 0, iv 2, .val .null, rv b6]) rfl ?_
   refine XS.aloadN X6.here hx rfl (hb hby d2_41) rfl rfl ?_
   refine XS.aload X6.here hx rfl (hb hby d2_42) rfl rfl ?_
   refine XS.iloadN X6.here hx rfl (hb hby d2_44) rfl ?_
   refine st14 _ ?_
   refine st15 _ ?_
   refine XS.aloadN X15.here hx rfl (hb hby d2_51) rfl rfl ?_
   refine XS.aload X15.here hx rfl (hb hby d2_52) rfl rfl ?_
   refine st24 _ ?_
   exact X24.returnOut hx Bd.returns (hb hby d2_57) hr
  ·show QSE_2 Z r0 r1 c0 c1 ks cst fv h0 n0 _ T24.heap _
   rw [e24]
   exact Or.inl ⟨rfl, N24, kp32, fa25, hq6, fa27, b6, kb6, fa26, szk6, g_b6, fa30⟩
 ·skip
  have N6 := Fr.app N0 N6q
  have szk6 : h0.size ≤ b6 := Nat.le_trans kp0.1 sz6
  have ne_r0_b6 : r0 ≠ b6 := Nat.ne_of_lt (Nat.lt_of_lt_of_le E0.lt sz6)
  have ne_r1_b6 : r1 ≠ b6 := Nat.ne_of_lt (Nat.lt_of_lt_of_le Vs.lt sz6)
  have fa33 := E0.keep K6
  have fa34 := Fv.keep K6 nin0
  have fa35 := Fc.keep K6 nin0
  have fa36 := Vs.keep K6 nin0
  have fa37 := O0.keep K6 all0
  have z38 : n0 ≤ T6.heap.size := Nat.le_trans Z0 K6.1
  have kp39 : Keep h0 T6.heap [r0] := kp0.trans K6 all0
  obtain ⟨_, _, ⟨T40, L40, k40, n40⟩, -, X40, ⟨Lc40, hQ40, l40, y40, z40⟩, st40⟩ := Jvm.LawKit.callS X6 hx (y := (⟨"java/lang/StringUTF16", "coderFromArrayLen", "([BI)B"⟩ : MethodName)) hown (mvT hZ (hq hw 23 rfl)) (mvT hZ (hq hw 24 rfl)) (mvT hZ (hq hw 17 rfl)) (mvT hZ (hq hw 25 rfl)) (by decide) (backOf (W := 1) (rmCF_2_4 l Z a0 hw [] b6 kb6 [(.int (nar .byte ((c0 >>> ((0 : Int32) &&& 31)).toInt8.toInt32))), (.int (nar .byte ((c0 >>> ((8 : Int32) &&& 31)).toInt8.toInt32))), (.int (nar .byte ((c1 >>> ((0 : Int32) &&& 31)).toInt8.toInt32))), (.int (nar .byte ((c1 >>> ((8 : Int32) &&& 31)).toInt8.toInt32)))] T6.heap n0 z38 V6) hZ (hq hw 25 rfl) (hq hw 17 rfl) (by decide) (by decide)) (g := (mkF m 45 #[rv r0, rv r1, iv 0, iv 2, .val .null, rv b6] [(.int (2 : Int32)), (.ref b6), (.ref r0)])) rfl (by rw [hml]; rfl) (argsL := [(.ref b6), (.int (2 : Int32))]) (rest := [(.ref r0)]) (lenOf pd_12 rfl) rfl (by show 2 * 0 + _ ≤ _; exact Nat.le_of_eq rfl) (hb hby d2_45) (fun _ _ => ⟨rfl, rfl, (by decide : 2 + 0 ≤ _), (by decide : 6 + 0 ≤ _)⟩)
  dsimp only [Pt.U, Pt.locs, Pt.cells, Pt.slots] at X40 l40 y40 z40 st40 hQ40
  subst l40 y40 z40
  obtain ⟨rfl, N40q, eh40⟩ := hQ40
  have N40 := Fr.app N6 N40q
  obtain ⟨T41, h41, X41, e41, W41, st41⟩ := putFN X40 hx hZ hown (hq hw 26 rfl) Via.refl eh40 fa35 fa33 (Or.inr ⟨(hq hw 27 rfl), rfl, hnm⟩) (hq hw 2 rfl) (ty := .byte) (v' := (.int (1 : Int32))) (by decide) rfl (fits_nar_byte (1 : Int32)) (g := (mkF m 48 #[rv r0, rv r1, iv 0, iv 2, .val .null, rv b6] [(.int (1 : Int32)), (.ref r0)])) rfl rfl (hb hby d2_48)
  have fa42 := fa33.wr W41
  have fa43 := fa34.other W41 (Or.inr (slot_ne (Or.inr (hq hw 29 rfl)) (Or.inr (hq hw 27 rfl)) (by decide) (t := (.array .byte)) (t' := .byte) (by decide) (by decide)))
  have fa44 : Fld Z h41 r0 "java/lang/String" "coder" "B" (.int (1 : Int32)) := fa35.same W41
  have fa45 := fa36.other W41 (Ne.symm hne)
  have fa46 := fa37.wr W41 g_r0
  have fa47 := V6.other W41 (Ne.symm ne_r0_b6)
  have z48 : n0 ≤ h41.size := Nat.le_trans z38 (Nat.le_of_eq W41.size.symm)
  have kp49 : Keep h0 h41 [r0] := kp39.wr W41 (Or.inl (List.mem_of_getElem? (i := 0) rfl))
  have N41 := Fr.snoc X41 N40 g_r0
  obtain ⟨T50, h50, X50, e50, W50, st50⟩ := putF X41 hx hZ hown (host := "") (Or.inl (hq hw 28 rfl)) Via.refl e41 fa43 fa42 (Or.inr ⟨(hq hw 29 rfl), rfl, hnm⟩) (hq hw 2 rfl) (ty := (.array .byte)) (by decide) rfl rfl (g := (mkF m 54 #[rv r0, rv r1, iv 0, iv 2, .val .null, rv b6] [(.ref b6), (.ref r0)])) rfl rfl (hb hby d2_54)
  have fa51 := fa42.wr W50
  have fa52 : Fld Z h50 r0 "java/lang/String" "value" "[B" (.ref b6) := fa43.same W50
  have fa53 := fa44.other W50 (Or.inr (slot_ne (Or.inr (hq hw 27 rfl)) (Or.inr (hq hw 29 rfl)) (by decide) (t := .byte) (t' := (.array .byte)) (by decide) (by decide)))
  have fa54 := fa45.other W50 (Ne.symm hne)
  have fa55 := fa46.wr W50 g_r0
  have fa56 := fa47.other W50 (Ne.symm ne_r0_b6)
  have z57 : n0 ≤ h50.size := Nat.le_trans z48 (Nat.le_of_eq W50.size.symm)
  have kp58 : Keep h0 h50 [r0] := kp49.wr W50 (Or.inl (List.mem_of_getElem? (i := 0) rfl))
  have N50 := Fr.snoc X50 N41 g_r0
  obtain ⟨fs, hr, hrun, hended, hW, hsame⟩ := X50.leave (v := none) (fun _ => rfl)
  refine ⟨_, _, G4 _ ?_, hrun, hended, _, _, rfl, ?_, ⟨_, rfl⟩, hW, hsame.mono (by decide) (by decide)⟩
  ·skip
   refine XS.ifNo X3.here hx rfl (hb hby d2_30) rfl ((if0 _ _).trans (feq hc30_5).1) ?_
   refine XS.aloadN X3.here hx rfl (hb hby d2_33) rfl rfl ?_
   refine XS.iloadN X3.here hx rfl (hb hby d2_34) rfl ?_
   refine XS.iloadN X3.here hx rfl (hb hby d2_35) rfl ?_
   refine st6 _ ?_
   refine XS.astore X6.here hx rfl (hb hby d2_39) rfl rfl (l' := #[rv r0, rv r1, iv 0, iv 2, .val .null, rv b6]) rfl ?_
   refine XS.aloadN X6.here hx rfl (hb hby d2_41) rfl rfl ?_
   refine XS.aload X6.here hx rfl (hb hby d2_42) rfl rfl ?_
   refine XS.iloadN X6.here hx rfl (hb hby d2_44) rfl ?_
   refine st40 _ ?_
   refine st41 _ ?_
   refine XS.aloadN X41.here hx rfl (hb hby d2_51) rfl rfl ?_
   refine XS.aload X41.here hx rfl (hb hby d2_52) rfl rfl ?_
   refine st50 _ ?_
   exact X50.returnOut hx Bd.returns (hb hby d2_57) hr
  ·show QSE_2 Z r0 r1 c0 c1 ks cst fv h0 n0 _ T50.heap _
   rw [e50]
   exact Or.inr ⟨rfl, N50, kp58, fa51, hq6, fa53, b6, kb6, fa52, szk6, g_b6, fa56⟩
def QSF_2 (Z : State) (r0 : Addr) (r1 : Addr) (c0 c1 : Int32) (ks : ClassId) (cst : Int32) (fv : Value) (h0 : Heap) (n0 : Nat) (v : Option Value) (h : Heap) (L : List Loc) : Prop := (v = none ∧ Fr n0 L ∧ Keep h0 h [r0] ∧ Exa Z h r0 "java/lang/String" ∧ (¬ ((255 : Int32) < c0) ∧ ¬ ((255 : Int32) < c1)) ∧ Fld Z h r0 "java/lang/String" "coder" "B" (.int (0 : Int32)) ∧ ∃ (t : Addr) (k : ClassId), Fld Z h r0 "java/lang/String" "value" "[B" (.ref t) ∧ h0.size ≤ t ∧ n0 ≤ t ∧ Arv Z h t k .byte (2 : Int32) [(.int (nar .byte (c0.toInt8.toInt32))), (.int (nar .byte (c1.toInt8.toInt32)))] (.int (0 : Int32))) ∨ (v = none ∧ Fr n0 L ∧ Keep h0 h [r0] ∧ Exa Z h r0 "java/lang/String" ∧ ((255 : Int32) < c0 ∨ (255 : Int32) < c1) ∧ Fld Z h r0 "java/lang/String" "coder" "B" (.int (1 : Int32)) ∧ ∃ (t : Addr) (k : ClassId), Fld Z h r0 "java/lang/String" "value" "[B" (.ref t) ∧ h0.size ≤ t ∧ n0 ≤ t ∧ Arv Z h t k .byte (4 : Int32) [(.int (nar .byte ((c0 >>> ((0 : Int32) &&& 31)).toInt8.toInt32))), (.int (nar .byte ((c0 >>> ((8 : Int32) &&& 31)).toInt8.toInt32))), (.int (nar .byte ((c1 >>> ((0 : Int32) &&& 31)).toInt8.toInt32))), (.int (nar .byte ((c1 >>> ((8 : Int32) &&& 31)).toInt8.toInt32)))] (.int (0 : Int32)))
theorem ef_rmSF_2 (m : MethodId) (x0 : Addr) (x1 : Addr) : entryFrame m #[(.ref x0), (.ref x1)] 2 = mkF m 0 #[.val (.ref x0), .val (.ref x1)] [] := by first | (simp [entryFrame, mkF, argsToLocals, Value.category]; done) | rfl
set_option maxRecDepth 65536 in
set_option maxHeartbeats 40000000 in
theorem rmSF_2 (l : Launch) (Z : State) (a0 : Array Value) (hw : ∀ d ∈ tables_1, d.before a0 Z = true) (ws : List Jvm.Cond) (r0 : Addr) (r1 : Addr) (c0 c1 : Int32) (ks : ClassId) (cst : Int32) (fv : Value) (h0 : Heap) (n0 : Nat) (Z0 : n0 ≤ h0.size) (E0 : Exa Z h0 r0 "java/lang/String") (Fv : Fld Z h0 r0 "java/lang/String" "value" "[B" .null) (Fc : Fld Z h0 r0 "java/lang/String" "coder" "B" (.int (0 : Int32))) (Vs : Arv Z h0 r1 ks .char (2 : Int32) [(.int c0), (.int c1)] (.int (0 : Int32))) (O0 : Old Z n0 h0) (g_r0 : n0 ≤ r0) (hne : r0 ≠ r1) (hb0 : 0 ≤ c0.toInt ∧ c0.toInt ≤ 65535) (hb1 : 0 ≤ c1.toInt ∧ c1.toInt ≤ 65535) (SS : Sts Z cst fv) :
  MetFree l (⟨"java/lang/String", "<init>", "([C)V"⟩ : MethodName) (head1 (Jvm.Cond.code (⟨"java/lang/String", "<init>", "([C)V"⟩ : MethodName) jdk_42_method_3_code 2 none :: ws) ({ frames := 5, cells := 2, slots := 6, locals := 74 } : Room)) (fun a U => a = #[(.ref r0), (.ref r1)] ∧ Z.Warmed39 U.vm ∧ U.heap = h0) (fun _ _ _ _ _ => True) (fun _ U o U' => ∃ v L, o = .returned v ∧ QSF_2 Z r0 r1 c0 c1 ks cst fv h0 n0 v U'.heap L ∧ FrameEnd U o U' L ({ frames := 5, cells := 2, slots := 6, locals := 74 } : Room).cells ({ frames := 5, cells := 2, slots := 6, locals := 74 } : Room).slots) := by
 refine MetFree.of_bodySF (plainFor_of_name pnc_java_lang_String) hisR ?_
 intro p e s m args below meth c s₁ Bd hml0 hP hK
 obtain ⟨rfl, hZ, hh⟩ := hP
 have hx := Bd.exec
 have hby := Bd.bytes
 have hml : c.maxLocals = 2 := hml0
 have hown : s.vm.findClass "java/lang/String" = some m.cls := findClass_of_methodNamed Bd.named
 have hnm := (name_of_methodNamed Bd.named Bd.method).1
 have X0 : Stand p l e ({ frames := 5, cells := 2, slots := 6, locals := 74 } : Room) s m #[(.ref r0), (.ref r1)] below meth c s₁ [] 0 0 := Stand.of_body Bd
 have e0 : s₁.heap = h0 := by rw [← hh, Bd.state]; rfl
 have N0 := Fr.nil n0
 have kp0 : Keep h0 h0 [r0] := Keep.refl _ _
 have G0 : ∀ t, Steps p.tables e below (s₁.setTop (mkF m 0 #[rv r0, rv r1] [])) t → Steps p.tables e below (s₁.setTop (entryFrame m #[(.ref r0), (.ref r1)] 2)) t := fun t k => castTop (ef_rmSF_2 m r0 r1) k
 obtain ⟨cl1, Ar1, q1, S1, M1, H1, G1⟩ := id Vs
 obtain ⟨_, _, ⟨T2, L2, k2, n2⟩, -, X2, ⟨Lc2, hQ2, l2, y2, z2⟩, st2⟩ := X0.specialBack hx (y := (⟨"java/lang/String", "<init>", "([CIILjava/lang/Void;)V"⟩ : MethodName)) rfl hown (mvT hZ (hq hw 7 rfl)) (mvT hZ (hq hw 8 rfl)) (mvT hZ (hq hw 10 rfl)) (by decide) (backOf (W := 0) (rmSE_2 l Z a0 hw [] r0 r1 c0 c1 ks cst fv h0 n0 Z0 E0 Fv Fc Vs O0 g_r0 hne hb0 hb1 SS) hZ (hq hw 10 rfl) (hq hw 3 rfl) (by decide) (by decide)) (g := (mkF m 6 #[rv r0, rv r1] [.null, (.int (2 : Int32)), (.int (0 : Int32)), (.ref r1), (.ref r0)])) rfl (by rw [hml]; rfl) (Steps.refl _) (a := r0) (argsL := [(.ref r1), (.int (0 : Int32)), (.int (2 : Int32)), .null]) (rest := []) (lenOf pd_13 rfl) rfl (by show 2 * 0 + _ ≤ _; exact Nat.le_of_eq rfl) (hb hby d1_6) (fun _ _ => ⟨rfl, e0, (by decide : 0 + 2 ≤ _), (by decide : 0 + 6 ≤ _)⟩)
 dsimp only [Pt.U, Pt.locs, Pt.cells, Pt.slots] at X2 l2 y2 z2 st2 hQ2
 subst l2 y2 z2
 rcases hQ2 with ⟨rfl, N2q, K2, A2, hq2, Fc2, ta2, kb2, Fv2, sz2, g_ta2, V2⟩ | ⟨rfl, N2q, K2, A2, hq2, Fc2, ta2, kb2, Fv2, sz2, g_ta2, V2⟩
 ·skip
  have N2 := Fr.app N0 N2q
  have szk2 : h0.size ≤ ta2 := Nat.le_trans kp0.1 sz2
  have ne_r0_ta2 : r0 ≠ ta2 := Nat.ne_of_lt (Nat.lt_of_lt_of_le E0.lt sz2)
  have ne_r1_ta2 : r1 ≠ ta2 := Nat.ne_of_lt (Nat.lt_of_lt_of_le Vs.lt sz2)
  have fa3 := E0.keep K2
  have fa4 := Vs.keep K2 (ninS (Ne.symm hne) nin0)
  have fa5 := O0.keep K2 (allS g_r0 all0)
  have z6 : n0 ≤ T2.heap.size := Nat.le_trans Z0 K2.1
  have kp7 : Keep h0 T2.heap [r0] := kp0.trans K2 (allS (Or.inl (List.mem_of_getElem? (i := 0) rfl)) all0)
  obtain ⟨fs, hr, hrun, hended, hW, hsame⟩ := X2.leave (v := none) (fun _ => rfl)
  refine ⟨_, _, G0 _ ?_, hrun, hended, _, _, rfl, ?_, ⟨_, rfl⟩, hW, hsame.mono (by decide) (by decide)⟩
  ·skip
   refine XS.aloadN X0.here hx rfl (hb hby d1_0) rfl rfl ?_
   refine XS.aloadN X0.here hx rfl (hb hby d1_1) rfl rfl ?_
   refine XS.iconst X0.here hx rfl (hb hby d1_2) ?_
   refine XS.aloadN X0.here hx rfl (hb hby d1_3) rfl rfl ?_
   refine X0.arraylength hx (by rw [e0]; exact Ar1.1) (State.isArrayOf_alike hZ.alike Ar1.2.1) (g := (mkF m 4 #[rv r0, rv r1] [(.ref r1), (.int (0 : Int32)), (.ref r1), (.ref r0)])) rfl rfl (hb hby d1_4) _ ?_
   rw [len_of S1 M1]
   refine XS.aconstNull X0.here hx rfl (hb hby d1_5) ?_
   refine st2.trans ?_
   exact X2.returnOut hx Bd.returns (hb hby d1_9) hr
  ·show QSF_2 Z r0 r1 c0 c1 ks cst fv h0 n0 _ T2.heap _
   exact Or.inl ⟨rfl, N2, kp7, A2, hq2, Fc2, ta2, kb2, Fv2, szk2, g_ta2, V2⟩
 ·skip
  have N2 := Fr.app N0 N2q
  have szk2 : h0.size ≤ ta2 := Nat.le_trans kp0.1 sz2
  have ne_r0_ta2 : r0 ≠ ta2 := Nat.ne_of_lt (Nat.lt_of_lt_of_le E0.lt sz2)
  have ne_r1_ta2 : r1 ≠ ta2 := Nat.ne_of_lt (Nat.lt_of_lt_of_le Vs.lt sz2)
  have fa8 := E0.keep K2
  have fa9 := Vs.keep K2 (ninS (Ne.symm hne) nin0)
  have fa10 := O0.keep K2 (allS g_r0 all0)
  have z11 : n0 ≤ T2.heap.size := Nat.le_trans Z0 K2.1
  have kp12 : Keep h0 T2.heap [r0] := kp0.trans K2 (allS (Or.inl (List.mem_of_getElem? (i := 0) rfl)) all0)
  obtain ⟨fs, hr, hrun, hended, hW, hsame⟩ := X2.leave (v := none) (fun _ => rfl)
  refine ⟨_, _, G0 _ ?_, hrun, hended, _, _, rfl, ?_, ⟨_, rfl⟩, hW, hsame.mono (by decide) (by decide)⟩
  ·skip
   refine XS.aloadN X0.here hx rfl (hb hby d1_0) rfl rfl ?_
   refine XS.aloadN X0.here hx rfl (hb hby d1_1) rfl rfl ?_
   refine XS.iconst X0.here hx rfl (hb hby d1_2) ?_
   refine XS.aloadN X0.here hx rfl (hb hby d1_3) rfl rfl ?_
   refine X0.arraylength hx (by rw [e0]; exact Ar1.1) (State.isArrayOf_alike hZ.alike Ar1.2.1) (g := (mkF m 4 #[rv r0, rv r1] [(.ref r1), (.int (0 : Int32)), (.ref r1), (.ref r0)])) rfl rfl (hb hby d1_4) _ ?_
   rw [len_of S1 M1]
   refine XS.aconstNull X0.here hx rfl (hb hby d1_5) ?_
   refine st2.trans ?_
   exact X2.returnOut hx Bd.returns (hb hby d1_9) hr
  ·show QSF_2 Z r0 r1 c0 c1 ks cst fv h0 n0 _ T2.heap _
   exact Or.inr ⟨rfl, N2, kp12, A2, hq2, Fc2, ta2, kb2, Fv2, szk2, g_ta2, V2⟩
def QC5_3 (Z : State) (r0 : Addr) (r2 : Addr) (c0 c1 c2 : Int32) (ks kd : ClassId) (h0 : Heap) (n0 : Nat) (v : Option Value) (h : Heap) (L : List Loc) : Prop := (v = some (.int (0 : Int32)) ∧ Fr n0 L ∧ Keep h0 h [r2] ∧ (255 : Int32) < c0) ∨ (v = some (.int (1 : Int32)) ∧ Fr n0 L ∧ Keep h0 h [r2] ∧ ¬ ((255 : Int32) < c0) ∧ (255 : Int32) < c1) ∨ (v = some (.int (2 : Int32)) ∧ Fr n0 L ∧ Keep h0 h [r2] ∧ ¬ ((255 : Int32) < c0) ∧ ¬ ((255 : Int32) < c1) ∧ (255 : Int32) < c2) ∨ (v = some (.int (3 : Int32)) ∧ Fr n0 L ∧ Keep h0 h [r2] ∧ ¬ ((255 : Int32) < c0) ∧ ¬ ((255 : Int32) < c1) ∧ ¬ ((255 : Int32) < c2) ∧ Arv Z h r2 kd .byte (3 : Int32) [(.int (nar .byte (c0.toInt8.toInt32))), (.int (nar .byte (c1.toInt8.toInt32))), (.int (nar .byte (c2.toInt8.toInt32)))] (.int (0 : Int32)))
theorem ef_rmC5_3 (m : MethodId) (x0 : Addr) (x1 : Int32) (x2 : Addr) (x3 : Int32) (x4 : Int32) : entryFrame m #[(.ref x0), (.int x1), (.ref x2), (.int x3), (.int x4)] 7 = mkF m 0 #[.val (.ref x0), .val (.int x1), .val (.ref x2), .val (.int x3), .val (.int x4), .unset, .unset] [] := by first | (simp [entryFrame, mkF, argsToLocals, Value.category]; done) | rfl
set_option maxRecDepth 65536 in
set_option maxHeartbeats 40000000 in
theorem rmC5_3 (l : Launch) (Z : State) (a0 : Array Value) (hw : ∀ d ∈ tables_1, d.before a0 Z = true) (ws : List Jvm.Cond) (r0 : Addr) (r2 : Addr) (c0 c1 c2 : Int32) (ks kd : ClassId) (h0 : Heap) (n0 : Nat) (Z0 : n0 ≤ h0.size) (Vs : Arv Z h0 r0 ks .char (3 : Int32) [(.int c0), (.int c1), (.int c2)] (.int (0 : Int32))) (Vd : Arv Z h0 r2 kd .byte (3 : Int32) [(.int (0 : Int32)), (.int (0 : Int32)), (.int (0 : Int32))] (.int (0 : Int32))) (hne : r0 ≠ r2) (g_r2 : n0 ≤ r2) :
  MetFree l (⟨"java/lang/StringUTF16", "compress", "([CI[BII)I"⟩ : MethodName) (head1 (Jvm.Cond.code (⟨"java/lang/StringUTF16", "compress", "([CI[BII)I"⟩ : MethodName) jdk_52_method_21_code 7 (some .int) :: ws) ({ frames := 0, cells := 0, slots := 0, locals := 0 } : Room)) (fun a U => a = #[(.ref r0), (.int (0 : Int32)), (.ref r2), (.int (0 : Int32)), (.int (3 : Int32))] ∧ Z.Warmed39 U.vm ∧ U.heap = h0) (fun _ _ _ _ _ => True) (fun _ U o U' => ∃ v L, o = .returned v ∧ QC5_3 Z r0 r2 c0 c1 c2 ks kd h0 n0 v U'.heap L ∧ FrameEnd U o U' L ({ frames := 0, cells := 0, slots := 0, locals := 0 } : Room).cells ({ frames := 0, cells := 0, slots := 0, locals := 0 } : Room).slots) := by
 refine MetFree.of_bodySF (plainFor_of_name pnc_java_lang_StringUTF16) hisR ?_
 intro p e s m args below meth c s₁ Bd hml0 hP hK
 obtain ⟨rfl, hZ, hh⟩ := hP
 have hx := Bd.exec
 have hby := Bd.bytes
 have hml : c.maxLocals = 7 := hml0
 have hown : s.vm.findClass "java/lang/StringUTF16" = some m.cls := findClass_of_methodNamed Bd.named
 have hnm := (name_of_methodNamed Bd.named Bd.method).1
 have X0 : Stand p l e ({ frames := 0, cells := 0, slots := 0, locals := 0 } : Room) s m #[(.ref r0), (.int (0 : Int32)), (.ref r2), (.int (0 : Int32)), (.int (3 : Int32))] below meth c s₁ [] 0 0 := Stand.of_body Bd
 have e0 : s₁.heap = h0 := by rw [← hh, Bd.state]; rfl
 have N0 := Fr.nil n0
 have kp0 : Keep h0 h0 [r2] := Keep.refl _ _
 have G0 : ∀ t, Steps p.tables e below (s₁.setTop (mkF m 0 #[rv r0, iv 0, rv r2, iv 0, iv 3, .unset, .unset] [])) t → Steps p.tables e below (s₁.setTop (entryFrame m #[(.ref r0), (.int (0 : Int32)), (.ref r2), (.int (0 : Int32)), (.int (3 : Int32))] 7)) t := fun t k => castTop (ef_rmC5_3 m r0 (0 : Int32) r2 (0 : Int32) (3 : Int32)) k
 have G1 : ∀ t, Steps p.tables e below (s₁.setTop (mkF m 7 #[rv r0, iv 0, rv r2, iv 0, iv 3, iv 0, .unset] [(.int (3 : Int32)), (.int (0 : Int32))])) t → Steps p.tables e below (s₁.setTop (entryFrame m #[(.ref r0), (.int (0 : Int32)), (.ref r2), (.int (0 : Int32)), (.int (3 : Int32))] 7)) t := by
  intro t kt
  refine G0 _ ?_
  refine XS.iconst X0.here hx rfl (hb hby d5_0) ?_
  refine XS.istore X0.here hx rfl (hb hby d5_1) rfl (l' := #[rv r0, iv 0, rv r2, iv 0, iv 3, iv 0, .unset]) rfl ?_
  refine XS.iload X0.here hx rfl (hb hby d5_3) rfl ?_
  refine XS.iload X0.here hx rfl (hb hby d5_5) rfl ?_
  exact kt
 obtain ⟨cl2, Ar2, q2, S2, M2, H2, G2⟩ := id Vs
 have hin2 : ¬ ((0 : Int32) < 0 ∨ cl2.slots.size ≤ ((0 : Int32)).toNatClampNeg) := inb_of S2 ⟨by decide, by decide⟩
 have hat2 : cl2.slots[((0 : Int32)).toNatClampNeg]? = some (.int c0) := H2.at hin2 rfl
 have G3 : ∀ t, Steps p.tables e below (s₁.setTop (mkF m 20 #[rv r0, iv 0, rv r2, iv 0, iv 3, iv 0, iv c0] [(.int (255 : Int32)), (.int c0)])) t → Steps p.tables e below (s₁.setTop (entryFrame m #[(.ref r0), (.int (0 : Int32)), (.ref r2), (.int (0 : Int32)), (.int (3 : Int32))] 7)) t := by
  intro t kt
  refine G1 _ ?_
  refine XS.icmpNo X0.here hx rfl (hb hby d5_7) rfl (tlt (by decide)).2.1 ?_
  refine XS.aloadN X0.here hx rfl (hb hby d5_10) rfl rfl ?_
  refine XS.iloadN X0.here hx rfl (hb hby d5_11) rfl ?_
  refine X0.caload hx (j := (0 : Int32)) (v := (.int c0)) (by rw [e0]; exact Ar2.1) (State.isArrayOf_alike hZ.alike Ar2.2.1) Ar2.2.2 hin2 hat2 (g := (mkF m 12 #[rv r0, iv 0, rv r2, iv 0, iv 3, iv 0, .unset] [(.int (0 : Int32)), (.ref r0)])) rfl rfl (hb hby d5_12) _ ?_
  refine XS.istore X0.here hx rfl (hb hby d5_13) rfl (l' := #[rv r0, iv 0, rv r2, iv 0, iv 3, iv 0, iv c0]) rfl ?_
  refine XS.iload X0.here hx rfl (hb hby d5_15) rfl ?_
  refine XS.sipush X0.here hx rfl (hb hby d5_17) ?_
  exact kt
 by_cases hc20_4 : (255 : Int32) < c0
 ·skip
  obtain ⟨fs, hr, hrun, hended, hW, hsame⟩ := X0.leave (v := some (.int (0 : Int32))) (fun h => by rw [Bd.returns] at h; cases h)
  refine ⟨_, _, G3 _ ?_, hrun, hended, _, _, rfl, ?_, ⟨_, rfl⟩, hW, hsame.mono (by decide) (by decide)⟩
  ·skip
   refine XS.icmpNo X0.here hx rfl (hb hby d5_20) rfl (tlt hc20_4).2.2.2 ?_
   refine XS.iload X0.here hx rfl (hb hby d5_23) rfl ?_
   exact retI X0 hx Bd.returns (hb hby d5_25) hr
  ·show QC5_3 Z r0 r2 c0 c1 c2 ks kd h0 n0 _ s₁.heap _
   rw [e0]
   exact Or.inl ⟨rfl, N0, kp0, hc20_4⟩
 ·skip
  obtain ⟨cl5, Ar5, q5, S5, M5, H5, G5⟩ := id Vd
  have hin5 : ¬ ((0 : Int32) < 0 ∨ cl5.slots.size ≤ ((0 : Int32)).toNatClampNeg) := inb_of S5 ⟨by decide, by decide⟩
  obtain ⟨T6, h6, X6, e6, W6, st6⟩ := stB X0 hx hZ e0 Ar5 (j := (0 : Int32)) hin5 (g := (mkF m 31 #[rv r0, iv 0, rv r2, iv 0, iv 3, iv 0, iv c0] [(.int (c0.toInt8.toInt32)), (.int (0 : Int32)), (.ref r2)])) rfl rfl (hb hby d5_31)
  have fa7 := Vs.other W6 hne
  have z8 : n0 ≤ h6.size := Nat.le_trans Z0 (Nat.le_of_eq W6.size.symm)
  have kp9 : Keep h0 h6 [r2] := kp0.wr W6 (Or.inl (List.mem_of_getElem? (i := 0) rfl))
  have fa10 : Arv Z h6 r2 kd .byte (3 : Int32) [(.int (nar .byte (c0.toInt8.toInt32))), (.int (0 : Int32)), (.int (0 : Int32))] (.int (0 : Int32)) := Arv.set Ar5 q5 S5 M5 H5 G5 (fits_nar_byte _) W6 0 rfl (Nat.le_of_ble_eq_true rfl)
  have N6 := Fr.snoc X6 N0 g_r2
  have G11 : ∀ t, Steps p.tables e below (T6.setTop (mkF m 7 #[rv r0, iv 1, rv r2, iv 1, iv 3, iv 1, iv c0] [(.int (3 : Int32)), (.int (1 : Int32))])) t → Steps p.tables e below (s₁.setTop (entryFrame m #[(.ref r0), (.int (0 : Int32)), (.ref r2), (.int (0 : Int32)), (.int (3 : Int32))] 7)) t := by
   intro t kt
   refine G3 _ ?_
   refine XS.icmpYes X0.here hx rfl (pc0 := 20) (pc' := 26) rfl (hb hby d5_20) rfl (flt hc20_4).2.2.2 (by decide) (by decide) ?_
   refine XS.aloadN X0.here hx rfl (hb hby d5_26) rfl rfl ?_
   refine XS.iloadN X0.here hx rfl (hb hby d5_27) rfl ?_
   refine XS.iload X0.here hx rfl (hb hby d5_28) rfl ?_
   refine XS.i2b X0.here hx rfl (hb hby d5_30) rfl ?_
   refine st6 _ ?_
   refine XS.iinc X6.here hx rfl (hb hby d5_32) rfl (l' := #[rv r0, iv 1, rv r2, iv 0, iv 3, iv 0, iv c0]) rfl ?_
   refine XS.iinc X6.here hx rfl (hb hby d5_35) rfl (l' := #[rv r0, iv 1, rv r2, iv 1, iv 3, iv 0, iv c0]) rfl ?_
   refine XS.iinc X6.here hx rfl (hb hby d5_38) rfl (l' := #[rv r0, iv 1, rv r2, iv 1, iv 3, iv 1, iv c0]) rfl ?_
   refine XS.goto X6.here hx rfl (pc0 := 41) (pc' := 3) rfl (hb hby d5_41) (by decide) (by decide) ?_
   show Steps p.tables e below (T6.setTop (mkF m 3 #[rv r0, iv 1, rv r2, iv 1, iv 3, iv 1, iv c0] [])) _
   refine XS.iload X6.here hx rfl (hb hby d5_3) rfl ?_
   refine XS.iload X6.here hx rfl (hb hby d5_5) rfl ?_
   exact kt
  obtain ⟨cl12, Ar12, q12, S12, M12, H12, G12⟩ := id fa7
  have hin12 : ¬ ((1 : Int32) < 0 ∨ cl12.slots.size ≤ ((1 : Int32)).toNatClampNeg) := inb_of S12 ⟨by decide, by decide⟩
  have hat12 : cl12.slots[((1 : Int32)).toNatClampNeg]? = some (.int c1) := H12.at hin12 rfl
  have G13 : ∀ t, Steps p.tables e below (T6.setTop (mkF m 20 #[rv r0, iv 1, rv r2, iv 1, iv 3, iv 1, iv c1] [(.int (255 : Int32)), (.int c1)])) t → Steps p.tables e below (s₁.setTop (entryFrame m #[(.ref r0), (.int (0 : Int32)), (.ref r2), (.int (0 : Int32)), (.int (3 : Int32))] 7)) t := by
   intro t kt
   refine G11 _ ?_
   refine XS.icmpNo X6.here hx rfl (hb hby d5_7) rfl (tlt (by decide)).2.1 ?_
   refine XS.aloadN X6.here hx rfl (hb hby d5_10) rfl rfl ?_
   refine XS.iloadN X6.here hx rfl (hb hby d5_11) rfl ?_
   refine X6.caload hx (j := (1 : Int32)) (v := (.int c1)) (by rw [e6]; exact Ar12.1) (State.isArrayOf_alike hZ.alike Ar12.2.1) Ar12.2.2 hin12 hat12 (g := (mkF m 12 #[rv r0, iv 1, rv r2, iv 1, iv 3, iv 1, iv c0] [(.int (1 : Int32)), (.ref r0)])) rfl rfl (hb hby d5_12) _ ?_
   refine XS.istore X6.here hx rfl (hb hby d5_13) rfl (l' := #[rv r0, iv 1, rv r2, iv 1, iv 3, iv 1, iv c1]) rfl ?_
   refine XS.iload X6.here hx rfl (hb hby d5_15) rfl ?_
   refine XS.sipush X6.here hx rfl (hb hby d5_17) ?_
   exact kt
  by_cases hc20_14 : (255 : Int32) < c1
  ·skip
   obtain ⟨fs, hr, hrun, hended, hW, hsame⟩ := X6.leave (v := some (.int (1 : Int32))) (fun h => by rw [Bd.returns] at h; cases h)
   refine ⟨_, _, G13 _ ?_, hrun, hended, _, _, rfl, ?_, ⟨_, rfl⟩, hW, hsame.mono (by decide) (by decide)⟩
   ·skip
    refine XS.icmpNo X6.here hx rfl (hb hby d5_20) rfl (tlt hc20_14).2.2.2 ?_
    refine XS.iload X6.here hx rfl (hb hby d5_23) rfl ?_
    exact retI X6 hx Bd.returns (hb hby d5_25) hr
   ·show QC5_3 Z r0 r2 c0 c1 c2 ks kd h0 n0 _ T6.heap _
    rw [e6]
    exact Or.inr (Or.inl ⟨rfl, N6, kp9, hc20_4, hc20_14⟩)
  ·skip
   obtain ⟨cl15, Ar15, q15, S15, M15, H15, G15⟩ := id fa10
   have hin15 : ¬ ((1 : Int32) < 0 ∨ cl15.slots.size ≤ ((1 : Int32)).toNatClampNeg) := inb_of S15 ⟨by decide, by decide⟩
   obtain ⟨T16, h16, X16, e16, W16, st16⟩ := stB X6 hx hZ e6 Ar15 (j := (1 : Int32)) hin15 (g := (mkF m 31 #[rv r0, iv 1, rv r2, iv 1, iv 3, iv 1, iv c1] [(.int (c1.toInt8.toInt32)), (.int (1 : Int32)), (.ref r2)])) rfl rfl (hb hby d5_31)
   have fa17 := fa7.other W16 hne
   have z18 : n0 ≤ h16.size := Nat.le_trans z8 (Nat.le_of_eq W16.size.symm)
   have kp19 : Keep h0 h16 [r2] := kp9.wr W16 (Or.inl (List.mem_of_getElem? (i := 0) rfl))
   have fa20 : Arv Z h16 r2 kd .byte (3 : Int32) [(.int (nar .byte (c0.toInt8.toInt32))), (.int (nar .byte (c1.toInt8.toInt32))), (.int (0 : Int32))] (.int (0 : Int32)) := Arv.set Ar15 q15 S15 M15 H15 G15 (fits_nar_byte _) W16 1 rfl (Nat.le_of_ble_eq_true rfl)
   have N16 := Fr.snoc X16 N6 g_r2
   have G21 : ∀ t, Steps p.tables e below (T16.setTop (mkF m 7 #[rv r0, iv 2, rv r2, iv 2, iv 3, iv 2, iv c1] [(.int (3 : Int32)), (.int (2 : Int32))])) t → Steps p.tables e below (s₁.setTop (entryFrame m #[(.ref r0), (.int (0 : Int32)), (.ref r2), (.int (0 : Int32)), (.int (3 : Int32))] 7)) t := by
    intro t kt
    refine G13 _ ?_
    refine XS.icmpYes X6.here hx rfl (pc0 := 20) (pc' := 26) rfl (hb hby d5_20) rfl (flt hc20_14).2.2.2 (by decide) (by decide) ?_
    refine XS.aloadN X6.here hx rfl (hb hby d5_26) rfl rfl ?_
    refine XS.iloadN X6.here hx rfl (hb hby d5_27) rfl ?_
    refine XS.iload X6.here hx rfl (hb hby d5_28) rfl ?_
    refine XS.i2b X6.here hx rfl (hb hby d5_30) rfl ?_
    refine st16 _ ?_
    refine XS.iinc X16.here hx rfl (hb hby d5_32) rfl (l' := #[rv r0, iv 2, rv r2, iv 1, iv 3, iv 1, iv c1]) rfl ?_
    refine XS.iinc X16.here hx rfl (hb hby d5_35) rfl (l' := #[rv r0, iv 2, rv r2, iv 2, iv 3, iv 1, iv c1]) rfl ?_
    refine XS.iinc X16.here hx rfl (hb hby d5_38) rfl (l' := #[rv r0, iv 2, rv r2, iv 2, iv 3, iv 2, iv c1]) rfl ?_
    refine XS.goto X16.here hx rfl (pc0 := 41) (pc' := 3) rfl (hb hby d5_41) (by decide) (by decide) ?_
    refine XS.iload X16.here hx rfl (hb hby d5_3) rfl ?_
    refine XS.iload X16.here hx rfl (hb hby d5_5) rfl ?_
    exact kt
   obtain ⟨cl22, Ar22, q22, S22, M22, H22, G22⟩ := id fa17
   have hin22 : ¬ ((2 : Int32) < 0 ∨ cl22.slots.size ≤ ((2 : Int32)).toNatClampNeg) := inb_of S22 ⟨by decide, by decide⟩
   have hat22 : cl22.slots[((2 : Int32)).toNatClampNeg]? = some (.int c2) := H22.at hin22 rfl
   have G23 : ∀ t, Steps p.tables e below (T16.setTop (mkF m 20 #[rv r0, iv 2, rv r2, iv 2, iv 3, iv 2, iv c2] [(.int (255 : Int32)), (.int c2)])) t → Steps p.tables e below (s₁.setTop (entryFrame m #[(.ref r0), (.int (0 : Int32)), (.ref r2), (.int (0 : Int32)), (.int (3 : Int32))] 7)) t := by
    intro t kt
    refine G21 _ ?_
    refine XS.icmpNo X16.here hx rfl (hb hby d5_7) rfl (tlt (by decide)).2.1 ?_
    refine XS.aloadN X16.here hx rfl (hb hby d5_10) rfl rfl ?_
    show Steps p.tables e below (T16.setTop (mkF m 11 #[rv r0, iv 2, rv r2, iv 2, iv 3, iv 2, iv c1] [(.ref r0)])) _
    refine XS.iloadN X16.here hx rfl (hb hby d5_11) rfl ?_
    refine X16.caload hx (j := (2 : Int32)) (v := (.int c2)) (by rw [e16]; exact Ar22.1) (State.isArrayOf_alike hZ.alike Ar22.2.1) Ar22.2.2 hin22 hat22 (g := (mkF m 12 #[rv r0, iv 2, rv r2, iv 2, iv 3, iv 2, iv c1] [(.int (2 : Int32)), (.ref r0)])) rfl rfl (hb hby d5_12) _ ?_
    refine XS.istore X16.here hx rfl (hb hby d5_13) rfl (l' := #[rv r0, iv 2, rv r2, iv 2, iv 3, iv 2, iv c2]) rfl ?_
    refine XS.iload X16.here hx rfl (hb hby d5_15) rfl ?_
    refine XS.sipush X16.here hx rfl (hb hby d5_17) ?_
    exact kt
   by_cases hc20_24 : (255 : Int32) < c2
   ·skip
    obtain ⟨fs, hr, hrun, hended, hW, hsame⟩ := X16.leave (v := some (.int (2 : Int32))) (fun h => by rw [Bd.returns] at h; cases h)
    refine ⟨_, _, G23 _ ?_, hrun, hended, _, _, rfl, ?_, ⟨_, rfl⟩, hW, hsame.mono (by decide) (by decide)⟩
    ·skip
     refine XS.icmpNo X16.here hx rfl (hb hby d5_20) rfl (tlt hc20_24).2.2.2 ?_
     refine XS.iload X16.here hx rfl (hb hby d5_23) rfl ?_
     exact retI X16 hx Bd.returns (hb hby d5_25) hr
    ·show QC5_3 Z r0 r2 c0 c1 c2 ks kd h0 n0 _ T16.heap _
     rw [e16]
     exact Or.inr (Or.inr (Or.inl ⟨rfl, N16, kp19, hc20_4, hc20_14, hc20_24⟩))
   ·skip
    obtain ⟨cl25, Ar25, q25, S25, M25, H25, G25⟩ := id fa20
    have hin25 : ¬ ((2 : Int32) < 0 ∨ cl25.slots.size ≤ ((2 : Int32)).toNatClampNeg) := inb_of S25 ⟨by decide, by decide⟩
    obtain ⟨T26, h26, X26, e26, W26, st26⟩ := stB X16 hx hZ e16 Ar25 (j := (2 : Int32)) hin25 (g := (mkF m 31 #[rv r0, iv 2, rv r2, iv 2, iv 3, iv 2, iv c2] [(.int (c2.toInt8.toInt32)), (.int (2 : Int32)), (.ref r2)])) rfl rfl (hb hby d5_31)
    have fa27 := fa17.other W26 hne
    have z28 : n0 ≤ h26.size := Nat.le_trans z18 (Nat.le_of_eq W26.size.symm)
    have kp29 : Keep h0 h26 [r2] := kp19.wr W26 (Or.inl (List.mem_of_getElem? (i := 0) rfl))
    have fa30 : Arv Z h26 r2 kd .byte (3 : Int32) [(.int (nar .byte (c0.toInt8.toInt32))), (.int (nar .byte (c1.toInt8.toInt32))), (.int (nar .byte (c2.toInt8.toInt32)))] (.int (0 : Int32)) := Arv.set Ar25 q25 S25 M25 H25 G25 (fits_nar_byte _) W26 2 rfl (Nat.le_of_ble_eq_true rfl)
    have N26 := Fr.snoc X26 N16 g_r2
    have G31 : ∀ t, Steps p.tables e below (T26.setTop (mkF m 7 #[rv r0, iv 3, rv r2, iv 3, iv 3, iv 3, iv c2] [(.int (3 : Int32)), (.int (3 : Int32))])) t → Steps p.tables e below (s₁.setTop (entryFrame m #[(.ref r0), (.int (0 : Int32)), (.ref r2), (.int (0 : Int32)), (.int (3 : Int32))] 7)) t := by
     intro t kt
     refine G23 _ ?_
     refine XS.icmpYes X16.here hx rfl (pc0 := 20) (pc' := 26) rfl (hb hby d5_20) rfl (flt hc20_24).2.2.2 (by decide) (by decide) ?_
     refine XS.aloadN X16.here hx rfl (hb hby d5_26) rfl rfl ?_
     refine XS.iloadN X16.here hx rfl (hb hby d5_27) rfl ?_
     refine XS.iload X16.here hx rfl (hb hby d5_28) rfl ?_
     refine XS.i2b X16.here hx rfl (hb hby d5_30) rfl ?_
     refine st26 _ ?_
     refine XS.iinc X26.here hx rfl (hb hby d5_32) rfl (l' := #[rv r0, iv 3, rv r2, iv 2, iv 3, iv 2, iv c2]) rfl ?_
     refine XS.iinc X26.here hx rfl (hb hby d5_35) rfl (l' := #[rv r0, iv 3, rv r2, iv 3, iv 3, iv 2, iv c2]) rfl ?_
     refine XS.iinc X26.here hx rfl (hb hby d5_38) rfl (l' := #[rv r0, iv 3, rv r2, iv 3, iv 3, iv 3, iv c2]) rfl ?_
     refine XS.goto X26.here hx rfl (pc0 := 41) (pc' := 3) rfl (hb hby d5_41) (by decide) (by decide) ?_
     refine XS.iload X26.here hx rfl (hb hby d5_3) rfl ?_
     refine XS.iload X26.here hx rfl (hb hby d5_5) rfl ?_
     exact kt
    obtain ⟨fs, hr, hrun, hended, hW, hsame⟩ := X26.leave (v := some (.int (3 : Int32))) (fun h => by rw [Bd.returns] at h; cases h)
    refine ⟨_, _, G31 _ ?_, hrun, hended, _, _, rfl, ?_, ⟨_, rfl⟩, hW, hsame.mono (by decide) (by decide)⟩
    ·skip
     refine XS.icmpYes X26.here hx rfl (pc0 := 7) (pc' := 44) rfl (hb hby d5_7) rfl (flt (by decide)).2.1 (by decide) (by decide) ?_
     refine XS.iload X26.here hx rfl (hb hby d5_44) rfl ?_
     exact retI X26 hx Bd.returns (hb hby d5_46) hr
    ·show QC5_3 Z r0 r2 c0 c1 c2 ks kd h0 n0 _ T26.heap _
     rw [e26]
     exact Or.inr (Or.inr (Or.inr (⟨rfl, N26, kp29, hc20_4, hc20_14, hc20_24, fa30⟩)))
def QNB_3 (Z : State)  (h0 : Heap) (n0 : Nat) (v : Option Value) (h : Heap) (L : List Loc) : Prop := ∃ (b : Addr) (k : ClassId), v = some (.ref b) ∧ Fr n0 L ∧ Keep h0 h [] ∧ n0 ≤ b ∧ h0.size ≤ b ∧ Arv Z h b k .byte (6 : Int32) [(.int (0 : Int32)), (.int (0 : Int32)), (.int (0 : Int32)), (.int (0 : Int32)), (.int (0 : Int32)), (.int (0 : Int32))] (.int (0 : Int32))
theorem ef_rmNB_3 (m : MethodId) (x0 : Int32) : entryFrame m #[(.int x0)] 1 = mkF m 0 #[.val (.int x0)] [] := by first | (simp [entryFrame, mkF, argsToLocals, Value.category]; done) | rfl
set_option maxRecDepth 65536 in
set_option maxHeartbeats 40000000 in
theorem rmNB_3 (l : Launch) (Z : State) (a0 : Array Value) (hw : ∀ d ∈ tables_1, d.before a0 Z = true) (ws : List Jvm.Cond)  (h0 : Heap) (n0 : Nat) (Z0 : n0 ≤ h0.size) :
  MetFree l (⟨"java/lang/StringUTF16", "newBytesFor", "(I)[B"⟩ : MethodName) (head1 (Jvm.Cond.code (⟨"java/lang/StringUTF16", "newBytesFor", "(I)[B"⟩ : MethodName) jdk_52_method_2_code 1 (some (.array .byte)) :: ws) ({ frames := 1, cells := 1, slots := 6, locals := 12 } : Room)) (fun a U => a = #[(.int (3 : Int32))] ∧ Z.Warmed39 U.vm ∧ U.heap = h0) (fun _ _ _ _ _ => True) (fun _ U o U' => ∃ v L, o = .returned v ∧ QNB_3 Z  h0 n0 v U'.heap L ∧ FrameEnd U o U' L ({ frames := 1, cells := 1, slots := 6, locals := 12 } : Room).cells ({ frames := 1, cells := 1, slots := 6, locals := 12 } : Room).slots) := by
 refine MetFree.of_bodySF (plainFor_of_name pnc_java_lang_StringUTF16) hisR ?_
 intro p e s m args below meth c s₁ Bd hml0 hP hK
 obtain ⟨rfl, hZ, hh⟩ := hP
 have hx := Bd.exec
 have hby := Bd.bytes
 have hml : c.maxLocals = 1 := hml0
 have hown : s.vm.findClass "java/lang/StringUTF16" = some m.cls := findClass_of_methodNamed Bd.named
 have hnm := (name_of_methodNamed Bd.named Bd.method).1
 have X0 : Stand p l e ({ frames := 1, cells := 1, slots := 6, locals := 12 } : Room) s m #[(.int (3 : Int32))] below meth c s₁ [] 0 0 := Stand.of_body Bd
 have e0 : s₁.heap = h0 := by rw [← hh, Bd.state]; rfl
 have N0 := Fr.nil n0
 have kp0 : Keep h0 h0 [] := Keep.refl _ _
 have G0 : ∀ t, Steps p.tables e below (s₁.setTop (mkF m 0 #[iv 3] [])) t → Steps p.tables e below (s₁.setTop (entryFrame m #[(.int (3 : Int32))] 1)) t := fun t k => castTop (ef_rmNB_3 m (3 : Int32)) k
 obtain ⟨_, _, ⟨T1, L1, k1, n1⟩, -, X1, ⟨Lc1, hQ1, l1, y1, z1⟩, st1⟩ := Jvm.LawKit.callS X0 hx (y := (⟨"java/lang/StringUTF16", "newBytesLength", "(I)I"⟩ : MethodName)) hown (mvT hZ (hq hw 79 rfl)) (mvT hZ (hq hw 80 rfl)) (mvT hZ (hq hw 17 rfl)) (mvT hZ (hq hw 81 rfl)) (by decide) (backOf (W := 0) (rm18 l Z a0 hw [] (3 : Int32)  h0 n0 Z0 (by decide) (by decide)) hZ (hq hw 81 rfl) (hq hw 17 rfl) (by decide) (by decide)) (g := (mkF m 1 #[iv 3] [(.int (3 : Int32))])) rfl (by rw [hml]; rfl) (argsL := [(.int (3 : Int32))]) (rest := []) (lenOf pd_7 rfl) rfl (by show 2 * 0 + _ ≤ _; exact Nat.le_of_eq rfl) (hb hby d17_1) (fun _ _ => ⟨rfl, e0, (by decide : 0 + 0 ≤ _), (by decide : 0 + 0 ≤ _)⟩)
 dsimp only [Pt.U, Pt.locs, Pt.cells, Pt.slots] at X1 l1 y1 z1 st1 hQ1
 subst l1 y1 z1
 obtain ⟨rfl, N1q, eh1⟩ := hQ1
 have N1 := Fr.app N0 N1q
 obtain ⟨T2, h2, k2, X2, e2, E2, A2, st2⟩ := newP X1 hx hZ (hq hw 19 rfl) eh1 (g := (mkF m 4 #[iv 3] [(.int (6 : Int32))])) rfl (hb hby d17_4) rfl (by decide) (cap := 6) (by decide) (by decide) (by decide) (by decide)
 obtain ⟨b2, g2⟩ : ∃ z, z = h0.size := ⟨_, rfl⟩
 rw [← g2] at A2 st2
 have g_b2 : n0 ≤ b2 := Nat.le_trans Z0 (Nat.le_of_eq g2.symm)
 have sz_b2 : h0.size ≤ b2 := Nat.le_trans kp0.1 (Nat.le_of_eq g2.symm)
 have z3 : n0 ≤ h2.size := Nat.le_trans Z0 E2.1
 have kp4 : Keep h0 h2 [] := kp0.ext E2
 have fa5 : Arv Z h2 b2 k2 .byte (6 : Int32) [(.int (0 : Int32)), (.int (0 : Int32)), (.int (0 : Int32)), (.int (0 : Int32)), (.int (0 : Int32)), (.int (0 : Int32))] (.int (0 : Int32)) := (Arv.new A2 (by decide)).pad (pad_rep [] (.int (0 : Int32)) 6)
 obtain ⟨fs, hr, hrun, hended, hW, hsame⟩ := X2.leave (v := some (.ref b2)) (fun h => by rw [Bd.returns] at h; cases h)
 refine ⟨_, _, G0 _ ?_, hrun, hended, _, _, rfl, ?_, ⟨_, rfl⟩, hW, hsame.mono (by decide) (by decide)⟩
 ·skip
  refine XS.iloadN X0.here hx rfl (hb hby d17_0) rfl ?_
  refine st1 _ ?_
  refine st2 _ ?_
  exact retOut X2 hx Bd.returns rfl (Or.inr (Or.inr (Or.inr (Or.inr ⟨rfl, rfl, rfl⟩)))) (hb hby d17_6) hr
 ·show QNB_3 Z  h0 n0 _ T2.heap _
  rw [e2]
  exact ⟨b2, k2, rfl, N1, kp4, g_b2, sz_b2, fa5⟩
def QTB_3 (Z : State) (r0 : Addr) (c0 c1 c2 : Int32) (ks : ClassId) (cst : Int32) (fv : Value) (h0 : Heap) (n0 : Nat) (v : Option Value) (h : Heap) (L : List Loc) : Prop := ∃ (b : Addr) (k : ClassId), v = some (.ref b) ∧ Fr n0 L ∧ Keep h0 h [] ∧ n0 ≤ b ∧ h0.size ≤ b ∧ Arv Z h b k .byte (6 : Int32) [(.int (nar .byte ((c0 >>> ((0 : Int32) &&& 31)).toInt8.toInt32))), (.int (nar .byte ((c0 >>> ((8 : Int32) &&& 31)).toInt8.toInt32))), (.int (nar .byte ((c1 >>> ((0 : Int32) &&& 31)).toInt8.toInt32))), (.int (nar .byte ((c1 >>> ((8 : Int32) &&& 31)).toInt8.toInt32))), (.int (nar .byte ((c2 >>> ((0 : Int32) &&& 31)).toInt8.toInt32))), (.int (nar .byte ((c2 >>> ((8 : Int32) &&& 31)).toInt8.toInt32)))] (.int (0 : Int32))
theorem ef_rmTB_3 (m : MethodId) (x0 : Addr) (x1 : Int32) (x2 : Int32) : entryFrame m #[(.ref x0), (.int x1), (.int x2)] 5 = mkF m 0 #[.val (.ref x0), .val (.int x1), .val (.int x2), .unset, .unset] [] := by first | (simp [entryFrame, mkF, argsToLocals, Value.category]; done) | rfl
set_option maxRecDepth 65536 in
set_option maxHeartbeats 40000000 in
theorem rmTB_3 (l : Launch) (Z : State) (a0 : Array Value) (hw : ∀ d ∈ tables_1, d.before a0 Z = true) (ws : List Jvm.Cond) (r0 : Addr) (c0 c1 c2 : Int32) (ks : ClassId) (cst : Int32) (fv : Value) (h0 : Heap) (n0 : Nat) (Z0 : n0 ≤ h0.size) (Vs : Arv Z h0 r0 ks .char (3 : Int32) [(.int c0), (.int c1), (.int c2)] (.int (0 : Int32))) (O0 : Old Z n0 h0) (SS : Sts Z cst fv) :
  MetFree l (⟨"java/lang/StringUTF16", "toBytes", "([CII)[B"⟩ : MethodName) (head1 (Jvm.Cond.code (⟨"java/lang/StringUTF16", "toBytes", "([CII)[B"⟩ : MethodName) jdk_52_method_14_code 5 (some (.array .byte)) :: ws) ({ frames := 2, cells := 1, slots := 6, locals := 24 } : Room)) (fun a U => a = #[(.ref r0), (.int (0 : Int32)), (.int (3 : Int32))] ∧ Z.Warmed39 U.vm ∧ U.heap = h0) (fun _ _ _ _ _ => True) (fun _ U o U' => ∃ v L, o = .returned v ∧ QTB_3 Z r0 c0 c1 c2 ks cst fv h0 n0 v U'.heap L ∧ FrameEnd U o U' L ({ frames := 2, cells := 1, slots := 6, locals := 24 } : Room).cells ({ frames := 2, cells := 1, slots := 6, locals := 24 } : Room).slots) := by
 refine MetFree.of_bodySF (plainFor_of_name pnc_java_lang_StringUTF16) hisR ?_
 intro p e s m args below meth c s₁ Bd hml0 hP hK
 obtain ⟨rfl, hZ, hh⟩ := hP
 have hx := Bd.exec
 have hby := Bd.bytes
 have hml : c.maxLocals = 5 := hml0
 have hown : s.vm.findClass "java/lang/StringUTF16" = some m.cls := findClass_of_methodNamed Bd.named
 have hnm := (name_of_methodNamed Bd.named Bd.method).1
 have X0 : Stand p l e ({ frames := 2, cells := 1, slots := 6, locals := 24 } : Room) s m #[(.ref r0), (.int (0 : Int32)), (.int (3 : Int32))] below meth c s₁ [] 0 0 := Stand.of_body Bd
 have e0 : s₁.heap = h0 := by rw [← hh, Bd.state]; rfl
 have N0 := Fr.nil n0
 have kp0 : Keep h0 h0 [] := Keep.refl _ _
 have G0 : ∀ t, Steps p.tables e below (s₁.setTop (mkF m 0 #[rv r0, iv 0, iv 3, .unset, .unset] [])) t → Steps p.tables e below (s₁.setTop (entryFrame m #[(.ref r0), (.int (0 : Int32)), (.int (3 : Int32))] 5)) t := fun t k => castTop (ef_rmTB_3 m r0 (0 : Int32) (3 : Int32)) k
 obtain ⟨_, _, ⟨T1, L1, k1, n1⟩, -, X1, ⟨Lc1, hQ1, l1, y1, z1⟩, st1⟩ := Jvm.LawKit.callS X0 hx (y := (⟨"java/lang/StringUTF16", "newBytesFor", "(I)[B"⟩ : MethodName)) hown (mvT hZ (hq hw 76 rfl)) (mvT hZ (hq hw 77 rfl)) (mvT hZ (hq hw 17 rfl)) (mvT hZ (hq hw 78 rfl)) (by decide) (backOf (W := 0) (rmNB_3 l Z a0 hw []   h0 n0 Z0 ) hZ (hq hw 78 rfl) (hq hw 17 rfl) (by decide) (by decide)) (g := (mkF m 1 #[rv r0, iv 0, iv 3, .unset, .unset] [(.int (3 : Int32))])) rfl (by rw [hml]; rfl) (argsL := [(.int (3 : Int32))]) (rest := []) (lenOf pd_8 rfl) rfl (by show 2 * 0 + _ ≤ _; exact Nat.le_of_eq rfl) (hb hby d16_1) (fun _ _ => ⟨rfl, e0, (by decide : 0 + 1 ≤ _), (by decide : 0 + 6 ≤ _)⟩)
 dsimp only [Pt.U, Pt.locs, Pt.cells, Pt.slots] at X1 l1 y1 z1 st1 hQ1
 subst l1 y1 z1
 obtain ⟨b1, kb1, rfl, N1q, K1, g_b1, sz1, V1⟩ := hQ1
 have N1 := Fr.app N0 N1q
 have szk1 : h0.size ≤ b1 := Nat.le_trans kp0.1 sz1
 have ne_r0_b1 : r0 ≠ b1 := Nat.ne_of_lt (Nat.lt_of_lt_of_le Vs.lt sz1)
 have fa2 := Vs.keep K1 nin0
 have fa3 := O0.keep K1 all0
 have z4 : n0 ≤ T1.heap.size := Nat.le_trans Z0 K1.1
 have kp5 : Keep h0 T1.heap [] := kp0.trans K1 all0
 have G6 : ∀ t, Steps p.tables e below (T1.setTop (mkF m 11 #[rv r0, iv 0, iv 3, rv b1, iv 0] [(.int (3 : Int32)), (.int (0 : Int32))])) t → Steps p.tables e below (s₁.setTop (entryFrame m #[(.ref r0), (.int (0 : Int32)), (.int (3 : Int32))] 5)) t := by
  intro t kt
  refine G0 _ ?_
  refine XS.iloadN X0.here hx rfl (hb hby d16_0) rfl ?_
  refine st1 _ ?_
  refine XS.astoreN X1.here hx rfl (hb hby d16_4) rfl rfl (l' := #[rv r0, iv 0, iv 3, rv b1, .unset]) rfl ?_
  refine XS.iconst X1.here hx rfl (hb hby d16_5) ?_
  refine XS.istore X1.here hx rfl (hb hby d16_6) rfl (l' := #[rv r0, iv 0, iv 3, rv b1, iv 0]) rfl ?_
  refine XS.iload X1.here hx rfl (hb hby d16_8) rfl ?_
  refine XS.iloadN X1.here hx rfl (hb hby d16_10) rfl ?_
  exact kt
 obtain ⟨cl7, Ar7, q7, S7, M7, H7, G7⟩ := id fa2
 have hin7 : ¬ ((0 : Int32) < 0 ∨ cl7.slots.size ≤ ((0 : Int32)).toNatClampNeg) := inb_of S7 ⟨by decide, by decide⟩
 have hat7 : cl7.slots[((0 : Int32)).toNatClampNeg]? = some (.int c0) := H7.at hin7 rfl
 obtain ⟨_, _, ⟨T8, L8, k8, n8⟩, -, X8, ⟨Lc8, hQ8, l8, y8, z8⟩, st8⟩ := Jvm.LawKit.callS X1 hx (y := (⟨"java/lang/StringUTF16", "putChar", "([BII)V"⟩ : MethodName)) hown (mvT hZ (hq hw 83 rfl)) (mvT hZ (hq hw 84 rfl)) (mvT hZ (hq hw 17 rfl)) (mvT hZ (hq hw 85 rfl)) (by decide) (backOf (W := 0) (rm19 l Z a0 hw [] b1 (0 : Int32) c0 kb1 (6 : Int32) [(.int (0 : Int32)), (.int (0 : Int32)), (.int (0 : Int32)), (.int (0 : Int32)), (.int (0 : Int32)), (.int (0 : Int32))] cst fv T1.heap n0 z4 V1 fa3 (by decide) (by decide) (Nat.le_of_ble_eq_true rfl) (Nat.le_of_ble_eq_true rfl) g_b1 SS) hZ (hq hw 85 rfl) (hq hw 17 rfl) (by decide) (by decide)) (g := (mkF m 20 #[rv r0, iv 0, iv 3, rv b1, iv 0] [(.int c0), (.int (0 : Int32)), (.ref b1)])) rfl (by rw [hml]; rfl) (argsL := [(.ref b1), (.int (0 : Int32)), (.int c0)]) (rest := []) (lenOf pd_9 rfl) rfl (by show 2 * 0 + _ ≤ _; exact Nat.le_of_eq rfl) (hb hby d16_20) (fun _ _ => ⟨rfl, rfl, (by decide : 1 + 0 ≤ _), (by decide : 6 + 0 ≤ _)⟩)
 dsimp only [Pt.U, Pt.locs, Pt.cells, Pt.slots] at X8 l8 y8 z8 st8 hQ8
 subst l8 y8 z8
 obtain ⟨rfl, N8q, K8, V8⟩ := hQ8
 have N8 := Fr.app N1 N8q
 have fa9 := fa2.keep K8 (ninS ne_r0_b1 nin0)
 have fa10 := fa3.keep K8 (allS g_b1 all0)
 have z11 : n0 ≤ T8.heap.size := Nat.le_trans z4 K8.1
 have kp12 : Keep h0 T8.heap [] := kp5.trans K8 (allS (Or.inr szk1) all0)
 have fa13 : Arv Z T8.heap b1 kb1 .byte (6 : Int32) [(.int (nar .byte ((c0 >>> ((0 : Int32) &&& 31)).toInt8.toInt32))), (.int (nar .byte ((c0 >>> ((8 : Int32) &&& 31)).toInt8.toInt32))), (.int (0 : Int32)), (.int (0 : Int32)), (.int (0 : Int32)), (.int (0 : Int32))] (.int (0 : Int32)) := V8
 have G14 : ∀ t, Steps p.tables e below (T8.setTop (mkF m 11 #[rv r0, iv 1, iv 3, rv b1, iv 1] [(.int (3 : Int32)), (.int (1 : Int32))])) t → Steps p.tables e below (s₁.setTop (entryFrame m #[(.ref r0), (.int (0 : Int32)), (.int (3 : Int32))] 5)) t := by
  intro t kt
  refine G6 _ ?_
  refine XS.icmpNo X1.here hx rfl (hb hby d16_11) rfl (tlt (by decide)).2.1 ?_
  refine XS.aloadN X1.here hx rfl (hb hby d16_14) rfl rfl ?_
  refine XS.iload X1.here hx rfl (hb hby d16_15) rfl ?_
  refine XS.aloadN X1.here hx rfl (hb hby d16_17) rfl rfl ?_
  refine XS.iloadN X1.here hx rfl (hb hby d16_18) rfl ?_
  refine X1.caload hx (j := (0 : Int32)) (v := (.int c0)) Ar7.1 (State.isArrayOf_alike hZ.alike Ar7.2.1) Ar7.2.2 hin7 hat7 (g := (mkF m 19 #[rv r0, iv 0, iv 3, rv b1, iv 0] [(.int (0 : Int32)), (.ref r0), (.int (0 : Int32)), (.ref b1)])) rfl rfl (hb hby d16_19) _ ?_
  refine st8 _ ?_
  refine XS.iinc X8.here hx rfl (hb hby d16_23) rfl (l' := #[rv r0, iv 1, iv 3, rv b1, iv 0]) rfl ?_
  refine XS.iinc X8.here hx rfl (hb hby d16_26) rfl (l' := #[rv r0, iv 1, iv 3, rv b1, iv 1]) rfl ?_
  refine XS.goto X8.here hx rfl (pc0 := 29) (pc' := 8) rfl (hb hby d16_29) (by decide) (by decide) ?_
  refine XS.iload X8.here hx rfl (hb hby d16_8) rfl ?_
  refine XS.iloadN X8.here hx rfl (hb hby d16_10) rfl ?_
  exact kt
 obtain ⟨cl15, Ar15, q15, S15, M15, H15, G15⟩ := id fa9
 have hin15 : ¬ ((1 : Int32) < 0 ∨ cl15.slots.size ≤ ((1 : Int32)).toNatClampNeg) := inb_of S15 ⟨by decide, by decide⟩
 have hat15 : cl15.slots[((1 : Int32)).toNatClampNeg]? = some (.int c1) := H15.at hin15 rfl
 obtain ⟨_, _, ⟨T16, L16, k16, n16⟩, -, X16, ⟨Lc16, hQ16, l16, y16, z16⟩, st16⟩ := Jvm.LawKit.callS X8 hx (y := (⟨"java/lang/StringUTF16", "putChar", "([BII)V"⟩ : MethodName)) hown (mvT hZ (hq hw 83 rfl)) (mvT hZ (hq hw 84 rfl)) (mvT hZ (hq hw 17 rfl)) (mvT hZ (hq hw 85 rfl)) (by decide) (backOf (W := 0) (rm19 l Z a0 hw [] b1 (1 : Int32) c1 kb1 (6 : Int32) [(.int (nar .byte ((c0 >>> ((0 : Int32) &&& 31)).toInt8.toInt32))), (.int (nar .byte ((c0 >>> ((8 : Int32) &&& 31)).toInt8.toInt32))), (.int (0 : Int32)), (.int (0 : Int32)), (.int (0 : Int32)), (.int (0 : Int32))] cst fv T8.heap n0 z11 fa13 fa10 (by decide) (by decide) (Nat.le_of_ble_eq_true rfl) (Nat.le_of_ble_eq_true rfl) g_b1 SS) hZ (hq hw 85 rfl) (hq hw 17 rfl) (by decide) (by decide)) (g := (mkF m 20 #[rv r0, iv 1, iv 3, rv b1, iv 1] [(.int c1), (.int (1 : Int32)), (.ref b1)])) rfl (by rw [hml]; rfl) (argsL := [(.ref b1), (.int (1 : Int32)), (.int c1)]) (rest := []) (lenOf pd_9 rfl) rfl (by show 2 * 0 + _ ≤ _; exact Nat.le_of_eq rfl) (hb hby d16_20) (fun _ _ => ⟨rfl, rfl, (by decide : 1 + 0 ≤ _), (by decide : 6 + 0 ≤ _)⟩)
 dsimp only [Pt.U, Pt.locs, Pt.cells, Pt.slots] at X16 l16 y16 z16 st16 hQ16
 subst l16 y16 z16
 obtain ⟨rfl, N16q, K16, V16⟩ := hQ16
 have N16 := Fr.app N8 N16q
 have fa17 := fa9.keep K16 (ninS ne_r0_b1 nin0)
 have fa18 := fa10.keep K16 (allS g_b1 all0)
 have z19 : n0 ≤ T16.heap.size := Nat.le_trans z11 K16.1
 have kp20 : Keep h0 T16.heap [] := kp12.trans K16 (allS (Or.inr szk1) all0)
 have fa21 : Arv Z T16.heap b1 kb1 .byte (6 : Int32) [(.int (nar .byte ((c0 >>> ((0 : Int32) &&& 31)).toInt8.toInt32))), (.int (nar .byte ((c0 >>> ((8 : Int32) &&& 31)).toInt8.toInt32))), (.int (nar .byte ((c1 >>> ((0 : Int32) &&& 31)).toInt8.toInt32))), (.int (nar .byte ((c1 >>> ((8 : Int32) &&& 31)).toInt8.toInt32))), (.int (0 : Int32)), (.int (0 : Int32))] (.int (0 : Int32)) := V16
 have G22 : ∀ t, Steps p.tables e below (T16.setTop (mkF m 11 #[rv r0, iv 2, iv 3, rv b1, iv 2] [(.int (3 : Int32)), (.int (2 : Int32))])) t → Steps p.tables e below (s₁.setTop (entryFrame m #[(.ref r0), (.int (0 : Int32)), (.int (3 : Int32))] 5)) t := by
  intro t kt
  refine G14 _ ?_
  refine XS.icmpNo X8.here hx rfl (hb hby d16_11) rfl (tlt (by decide)).2.1 ?_
  refine XS.aloadN X8.here hx rfl (hb hby d16_14) rfl rfl ?_
  show Steps p.tables e below (T8.setTop (mkF m 15 #[rv r0, iv 1, iv 3, rv b1, iv 1] [(.ref b1)])) _
  refine XS.iload X8.here hx rfl (hb hby d16_15) rfl ?_
  refine XS.aloadN X8.here hx rfl (hb hby d16_17) rfl rfl ?_
  refine XS.iloadN X8.here hx rfl (hb hby d16_18) rfl ?_
  refine X8.caload hx (j := (1 : Int32)) (v := (.int c1)) Ar15.1 (State.isArrayOf_alike hZ.alike Ar15.2.1) Ar15.2.2 hin15 hat15 (g := (mkF m 19 #[rv r0, iv 1, iv 3, rv b1, iv 1] [(.int (1 : Int32)), (.ref r0), (.int (1 : Int32)), (.ref b1)])) rfl rfl (hb hby d16_19) _ ?_
  refine st16 _ ?_
  refine XS.iinc X16.here hx rfl (hb hby d16_23) rfl (l' := #[rv r0, iv 2, iv 3, rv b1, iv 1]) rfl ?_
  refine XS.iinc X16.here hx rfl (hb hby d16_26) rfl (l' := #[rv r0, iv 2, iv 3, rv b1, iv 2]) rfl ?_
  refine XS.goto X16.here hx rfl (pc0 := 29) (pc' := 8) rfl (hb hby d16_29) (by decide) (by decide) ?_
  refine XS.iload X16.here hx rfl (hb hby d16_8) rfl ?_
  refine XS.iloadN X16.here hx rfl (hb hby d16_10) rfl ?_
  exact kt
 obtain ⟨cl23, Ar23, q23, S23, M23, H23, G23⟩ := id fa17
 have hin23 : ¬ ((2 : Int32) < 0 ∨ cl23.slots.size ≤ ((2 : Int32)).toNatClampNeg) := inb_of S23 ⟨by decide, by decide⟩
 have hat23 : cl23.slots[((2 : Int32)).toNatClampNeg]? = some (.int c2) := H23.at hin23 rfl
 obtain ⟨_, _, ⟨T24, L24, k24, n24⟩, -, X24, ⟨Lc24, hQ24, l24, y24, z24⟩, st24⟩ := Jvm.LawKit.callS X16 hx (y := (⟨"java/lang/StringUTF16", "putChar", "([BII)V"⟩ : MethodName)) hown (mvT hZ (hq hw 83 rfl)) (mvT hZ (hq hw 84 rfl)) (mvT hZ (hq hw 17 rfl)) (mvT hZ (hq hw 85 rfl)) (by decide) (backOf (W := 0) (rm19 l Z a0 hw [] b1 (2 : Int32) c2 kb1 (6 : Int32) [(.int (nar .byte ((c0 >>> ((0 : Int32) &&& 31)).toInt8.toInt32))), (.int (nar .byte ((c0 >>> ((8 : Int32) &&& 31)).toInt8.toInt32))), (.int (nar .byte ((c1 >>> ((0 : Int32) &&& 31)).toInt8.toInt32))), (.int (nar .byte ((c1 >>> ((8 : Int32) &&& 31)).toInt8.toInt32))), (.int (0 : Int32)), (.int (0 : Int32))] cst fv T16.heap n0 z19 fa21 fa18 (by decide) (by decide) (Nat.le_of_ble_eq_true rfl) (Nat.le_of_ble_eq_true rfl) g_b1 SS) hZ (hq hw 85 rfl) (hq hw 17 rfl) (by decide) (by decide)) (g := (mkF m 20 #[rv r0, iv 2, iv 3, rv b1, iv 2] [(.int c2), (.int (2 : Int32)), (.ref b1)])) rfl (by rw [hml]; rfl) (argsL := [(.ref b1), (.int (2 : Int32)), (.int c2)]) (rest := []) (lenOf pd_9 rfl) rfl (by show 2 * 0 + _ ≤ _; exact Nat.le_of_eq rfl) (hb hby d16_20) (fun _ _ => ⟨rfl, rfl, (by decide : 1 + 0 ≤ _), (by decide : 6 + 0 ≤ _)⟩)
 dsimp only [Pt.U, Pt.locs, Pt.cells, Pt.slots] at X24 l24 y24 z24 st24 hQ24
 subst l24 y24 z24
 obtain ⟨rfl, N24q, K24, V24⟩ := hQ24
 have N24 := Fr.app N16 N24q
 have fa25 := fa17.keep K24 (ninS ne_r0_b1 nin0)
 have fa26 := fa18.keep K24 (allS g_b1 all0)
 have z27 : n0 ≤ T24.heap.size := Nat.le_trans z19 K24.1
 have kp28 : Keep h0 T24.heap [] := kp20.trans K24 (allS (Or.inr szk1) all0)
 have fa29 : Arv Z T24.heap b1 kb1 .byte (6 : Int32) [(.int (nar .byte ((c0 >>> ((0 : Int32) &&& 31)).toInt8.toInt32))), (.int (nar .byte ((c0 >>> ((8 : Int32) &&& 31)).toInt8.toInt32))), (.int (nar .byte ((c1 >>> ((0 : Int32) &&& 31)).toInt8.toInt32))), (.int (nar .byte ((c1 >>> ((8 : Int32) &&& 31)).toInt8.toInt32))), (.int (nar .byte ((c2 >>> ((0 : Int32) &&& 31)).toInt8.toInt32))), (.int (nar .byte ((c2 >>> ((8 : Int32) &&& 31)).toInt8.toInt32)))] (.int (0 : Int32)) := V24
 have G30 : ∀ t, Steps p.tables e below (T24.setTop (mkF m 11 #[rv r0, iv 3, iv 3, rv b1, iv 3] [(.int (3 : Int32)), (.int (3 : Int32))])) t → Steps p.tables e below (s₁.setTop (entryFrame m #[(.ref r0), (.int (0 : Int32)), (.int (3 : Int32))] 5)) t := by
  intro t kt
  refine G22 _ ?_
  refine XS.icmpNo X16.here hx rfl (hb hby d16_11) rfl (tlt (by decide)).2.1 ?_
  refine XS.aloadN X16.here hx rfl (hb hby d16_14) rfl rfl ?_
  refine XS.iload X16.here hx rfl (hb hby d16_15) rfl ?_
  refine XS.aloadN X16.here hx rfl (hb hby d16_17) rfl rfl ?_
  refine XS.iloadN X16.here hx rfl (hb hby d16_18) rfl ?_
  refine X16.caload hx (j := (2 : Int32)) (v := (.int c2)) Ar23.1 (State.isArrayOf_alike hZ.alike Ar23.2.1) Ar23.2.2 hin23 hat23 (g := (mkF m 19 #[rv r0, iv 2, iv 3, rv b1, iv 2] [(.int (2 : Int32)), (.ref r0), (.int (2 : Int32)), (.ref b1)])) rfl rfl (hb hby d16_19) _ ?_
  refine st24 _ ?_
  refine XS.iinc X24.here hx rfl (hb hby d16_23) rfl (l' := #[rv r0, iv 3, iv 3, rv b1, iv 2]) rfl ?_
  refine XS.iinc X24.here hx rfl (hb hby d16_26) rfl (l' := #[rv r0, iv 3, iv 3, rv b1, iv 3]) rfl ?_
  refine XS.goto X24.here hx rfl (pc0 := 29) (pc' := 8) rfl (hb hby d16_29) (by decide) (by decide) ?_
  refine XS.iload X24.here hx rfl (hb hby d16_8) rfl ?_
  show Steps p.tables e below (T24.setTop (mkF m 10 #[rv r0, iv 3, iv 3, rv b1, iv 3] [(.int (3 : Int32))])) _
  refine XS.iloadN X24.here hx rfl (hb hby d16_10) rfl ?_
  exact kt
 obtain ⟨fs, hr, hrun, hended, hW, hsame⟩ := X24.leave (v := some (.ref b1)) (fun h => by rw [Bd.returns] at h; cases h)
 refine ⟨_, _, G30 _ ?_, hrun, hended, _, _, rfl, ?_, ⟨_, rfl⟩, hW, hsame.mono (by decide) (by decide)⟩
 ·skip
  refine XS.icmpYes X24.here hx rfl (pc0 := 11) (pc' := 32) rfl (hb hby d16_11) rfl (flt (by decide)).2.1 (by decide) (by decide) ?_
  refine XS.aloadN X24.here hx rfl (hb hby d16_32) rfl rfl ?_
  exact retOut X24 hx Bd.returns rfl (Or.inr (Or.inr (Or.inr (Or.inr ⟨rfl, rfl, rfl⟩)))) (hb hby d16_33) hr
 ·show QTB_3 Z r0 c0 c1 c2 ks cst fv h0 n0 _ T24.heap _
  exact ⟨b1, kb1, rfl, N24, kp28, g_b1, szk1, fa29⟩
def QC3_3 (Z : State) (r0 : Addr) (c0 c1 c2 : Int32) (ks : ClassId) (cst : Int32) (fv : Value) (h0 : Heap) (n0 : Nat) (v : Option Value) (h : Heap) (L : List Loc) : Prop := (∃ (b : Addr) (k : ClassId), v = some (.ref b) ∧ Fr n0 L ∧ Keep h0 h [] ∧ n0 ≤ b ∧ h0.size ≤ b ∧ (¬ ((255 : Int32) < c0) ∧ ¬ ((255 : Int32) < c1) ∧ ¬ ((255 : Int32) < c2)) ∧ Arv Z h b k .byte (3 : Int32) [(.int (nar .byte (c0.toInt8.toInt32))), (.int (nar .byte (c1.toInt8.toInt32))), (.int (nar .byte (c2.toInt8.toInt32)))] (.int (0 : Int32))) ∨ (∃ (b : Addr) (k : ClassId), v = some (.ref b) ∧ Fr n0 L ∧ Keep h0 h [] ∧ n0 ≤ b ∧ h0.size ≤ b ∧ ((255 : Int32) < c0 ∨ (255 : Int32) < c1 ∨ (255 : Int32) < c2) ∧ Arv Z h b k .byte (6 : Int32) [(.int (nar .byte ((c0 >>> ((0 : Int32) &&& 31)).toInt8.toInt32))), (.int (nar .byte ((c0 >>> ((8 : Int32) &&& 31)).toInt8.toInt32))), (.int (nar .byte ((c1 >>> ((0 : Int32) &&& 31)).toInt8.toInt32))), (.int (nar .byte ((c1 >>> ((8 : Int32) &&& 31)).toInt8.toInt32))), (.int (nar .byte ((c2 >>> ((0 : Int32) &&& 31)).toInt8.toInt32))), (.int (nar .byte ((c2 >>> ((8 : Int32) &&& 31)).toInt8.toInt32)))] (.int (0 : Int32)))
theorem ef_rmC3_3 (m : MethodId) (x0 : Addr) (x1 : Int32) (x2 : Int32) : entryFrame m #[(.ref x0), (.int x1), (.int x2)] 6 = mkF m 0 #[.val (.ref x0), .val (.int x1), .val (.int x2), .unset, .unset, .unset] [] := by first | (simp [entryFrame, mkF, argsToLocals, Value.category]; done) | rfl
set_option maxRecDepth 65536 in
set_option maxHeartbeats 40000000 in
theorem rmC3_3 (l : Launch) (Z : State) (a0 : Array Value) (hw : ∀ d ∈ tables_1, d.before a0 Z = true) (ws : List Jvm.Cond) (r0 : Addr) (c0 c1 c2 : Int32) (ks : ClassId) (cst : Int32) (fv : Value) (h0 : Heap) (n0 : Nat) (Z0 : n0 ≤ h0.size) (Vs : Arv Z h0 r0 ks .char (3 : Int32) [(.int c0), (.int c1), (.int c2)] (.int (0 : Int32))) (O0 : Old Z n0 h0) (hb0 : 0 ≤ c0.toInt ∧ c0.toInt ≤ 65535) (hb1 : 0 ≤ c1.toInt ∧ c1.toInt ≤ 65535) (hb2 : 0 ≤ c2.toInt ∧ c2.toInt ≤ 65535) (SS : Sts Z cst fv) :
  MetFree l (⟨"java/lang/StringUTF16", "compress", "([CII)[B"⟩ : MethodName) (head1 (Jvm.Cond.code (⟨"java/lang/StringUTF16", "compress", "([CII)[B"⟩ : MethodName) jdk_52_method_16_code 6 (some (.array .byte)) :: ws) ({ frames := 3, cells := 2, slots := 9, locals := 40 } : Room)) (fun a U => a = #[(.ref r0), (.int (0 : Int32)), (.int (3 : Int32))] ∧ Z.Warmed39 U.vm ∧ U.heap = h0) (fun _ _ _ _ _ => True) (fun _ U o U' => ∃ v L, o = .returned v ∧ QC3_3 Z r0 c0 c1 c2 ks cst fv h0 n0 v U'.heap L ∧ FrameEnd U o U' L ({ frames := 3, cells := 2, slots := 9, locals := 40 } : Room).cells ({ frames := 3, cells := 2, slots := 9, locals := 40 } : Room).slots) := by
 refine MetFree.of_bodySF (plainFor_of_name pnc_java_lang_StringUTF16) hisR ?_
 intro p e s m args below meth c s₁ Bd hml0 hP hK
 obtain ⟨rfl, hZ, hh⟩ := hP
 have hx := Bd.exec
 have hby := Bd.bytes
 have hml : c.maxLocals = 6 := hml0
 have hown : s.vm.findClass "java/lang/StringUTF16" = some m.cls := findClass_of_methodNamed Bd.named
 have hnm := (name_of_methodNamed Bd.named Bd.method).1
 have X0 : Stand p l e ({ frames := 3, cells := 2, slots := 9, locals := 40 } : Room) s m #[(.ref r0), (.int (0 : Int32)), (.int (3 : Int32))] below meth c s₁ [] 0 0 := Stand.of_body Bd
 have e0 : s₁.heap = h0 := by rw [← hh, Bd.state]; rfl
 have N0 := Fr.nil n0
 have kp0 : Keep h0 h0 [] := Keep.refl _ _
 have G0 : ∀ t, Steps p.tables e below (s₁.setTop (mkF m 0 #[rv r0, iv 0, iv 3, .unset, .unset, .unset] [])) t → Steps p.tables e below (s₁.setTop (entryFrame m #[(.ref r0), (.int (0 : Int32)), (.int (3 : Int32))] 6)) t := fun t k => castTop (ef_rmC3_3 m r0 (0 : Int32) (3 : Int32)) k
 obtain ⟨T1, h1, k1, X1, e1, E1, A1, st1⟩ := newP X0 hx hZ (hq hw 19 rfl) e0 (g := (mkF m 1 #[rv r0, iv 0, iv 3, .unset, .unset, .unset] [(.int (3 : Int32))])) rfl (hb hby d4_1) rfl (by decide) (cap := 3) (by decide) (by decide) (by decide) (by decide)
 obtain ⟨b1, g1⟩ : ∃ z, z = h0.size := ⟨_, rfl⟩
 rw [← g1] at A1 st1
 have g_b1 : n0 ≤ b1 := Nat.le_trans Z0 (Nat.le_of_eq g1.symm)
 have sz_b1 : h0.size ≤ b1 := Nat.le_trans kp0.1 (Nat.le_of_eq g1.symm)
 have ne_r0_b1 : r0 ≠ b1 := Nat.ne_of_lt (Nat.lt_of_lt_of_le Vs.lt (Nat.le_of_eq g1.symm))
 have fa2 := Vs.ext E1
 have fa3 := O0.ext E1
 have z4 : n0 ≤ h1.size := Nat.le_trans Z0 E1.1
 have kp5 : Keep h0 h1 [] := kp0.ext E1
 have fa6 : Arv Z h1 b1 k1 .byte (3 : Int32) [(.int (0 : Int32)), (.int (0 : Int32)), (.int (0 : Int32))] (.int (0 : Int32)) := (Arv.new A1 (by decide)).pad (pad_rep [] (.int (0 : Int32)) 3)
 obtain ⟨_, _, ⟨T7, L7, k7, n7⟩, -, X7, ⟨Lc7, hQ7, l7, y7, z7⟩, st7⟩ := Jvm.LawKit.callS X1 hx (y := (⟨"java/lang/StringUTF16", "compress", "([CI[BII)I"⟩ : MethodName)) hown (mvT hZ (hq hw 20 rfl)) (mvT hZ (hq hw 21 rfl)) (mvT hZ (hq hw 17 rfl)) (mvT hZ (hq hw 22 rfl)) (by decide) (backOf (W := 0) (rmC5_3 l Z a0 hw [] r0 b1 c0 c1 c2 ks k1 h1 n0 z4 fa2 fa6 ne_r0_b1 g_b1) hZ (hq hw 22 rfl) (hq hw 17 rfl) (by decide) (by decide)) (g := (mkF m 9 #[rv r0, iv 0, iv 3, rv b1, .unset, .unset] [(.int (3 : Int32)), (.int (0 : Int32)), (.ref b1), (.int (0 : Int32)), (.ref r0)])) rfl (by rw [hml]; rfl) (argsL := [(.ref r0), (.int (0 : Int32)), (.ref b1), (.int (0 : Int32)), (.int (3 : Int32))]) (rest := []) (lenOf pd_10 rfl) rfl (by show 2 * 0 + _ ≤ _; exact Nat.le_of_eq rfl) (hb hby d4_9) (fun _ _ => ⟨rfl, e1, (by decide : 1 + 0 ≤ _), (by decide : 3 + 0 ≤ _)⟩)
 dsimp only [Pt.U, Pt.locs, Pt.cells, Pt.slots] at X7 l7 y7 z7 st7 hQ7
 subst l7 y7 z7
 rcases hQ7 with ⟨rfl, N7q, K7, hq7_0⟩ | ⟨rfl, N7q, K7, hq7_0, hq7_1⟩ | ⟨rfl, N7q, K7, hq7_0, hq7_1, hq7_2⟩ | ⟨rfl, N7q, K7, hq7_0, hq7_1, hq7_2, V7⟩
 ·skip
  have N7 := Fr.app N0 N7q
  have fa8 := fa2.keep K7 (ninS ne_r0_b1 nin0)
  have fa9 := fa3.keep K7 (allS g_b1 all0)
  have z10 : n0 ≤ T7.heap.size := Nat.le_trans z4 K7.1
  have kp11 : Keep h0 T7.heap [] := kp5.trans K7 (allS (Or.inr sz_b1) all0)
  have G12 : ∀ t, Steps p.tables e below (T7.setTop (mkF m 17 #[rv r0, iv 0, iv 3, rv b1, iv 0, .unset] [(.int (3 : Int32)), (.int (0 : Int32))])) t → Steps p.tables e below (s₁.setTop (entryFrame m #[(.ref r0), (.int (0 : Int32)), (.int (3 : Int32))] 6)) t := by
   intro t kt
   refine G0 _ ?_
   refine XS.iloadN X0.here hx rfl (hb hby d4_0) rfl ?_
   refine st1 _ ?_
   refine XS.astoreN X1.here hx rfl (hb hby d4_3) rfl rfl (l' := #[rv r0, iv 0, iv 3, rv b1, .unset, .unset]) rfl ?_
   refine XS.aloadN X1.here hx rfl (hb hby d4_4) rfl rfl ?_
   refine XS.iloadN X1.here hx rfl (hb hby d4_5) rfl ?_
   refine XS.aloadN X1.here hx rfl (hb hby d4_6) rfl rfl ?_
   refine XS.iconst X1.here hx rfl (hb hby d4_7) ?_
   refine XS.iloadN X1.here hx rfl (hb hby d4_8) rfl ?_
   refine st7 _ ?_
   refine XS.istore X7.here hx rfl (hb hby d4_12) rfl (l' := #[rv r0, iv 0, iv 3, rv b1, iv 0, .unset]) rfl ?_
   refine XS.iload X7.here hx rfl (hb hby d4_14) rfl ?_
   refine XS.iloadN X7.here hx rfl (hb hby d4_16) rfl ?_
   exact kt
  obtain ⟨_, _, ⟨T13, L13, k13, n13⟩, -, X13, ⟨Lc13, hQ13, l13, y13, z13⟩, st13⟩ := Jvm.LawKit.callS X7 hx (y := (⟨"java/lang/StringUTF16", "toBytes", "([CII)[B"⟩ : MethodName)) hown (mvT hZ (hq hw 73 rfl)) (mvT hZ (hq hw 74 rfl)) (mvT hZ (hq hw 17 rfl)) (mvT hZ (hq hw 75 rfl)) (by decide) (backOf (W := 0) (rmTB_3 l Z a0 hw [] r0 c0 c1 c2 ks cst fv T7.heap n0 z10 fa8 fa9 SS) hZ (hq hw 75 rfl) (hq hw 17 rfl) (by decide) (by decide)) (g := (mkF m 23 #[rv r0, iv 0, iv 3, rv b1, iv 0, .unset] [(.int (3 : Int32)), (.int (0 : Int32)), (.ref r0)])) rfl (by rw [hml]; rfl) (argsL := [(.ref r0), (.int (0 : Int32)), (.int (3 : Int32))]) (rest := []) (lenOf pd_11 rfl) rfl (by show 2 * 0 + _ ≤ _; exact Nat.le_of_eq rfl) (hb hby d4_23) (fun _ _ => ⟨rfl, rfl, (by decide : 1 + 1 ≤ _), (by decide : 3 + 6 ≤ _)⟩)
  dsimp only [Pt.U, Pt.locs, Pt.cells, Pt.slots] at X13 l13 y13 z13 st13 hQ13
  subst l13 y13 z13
  obtain ⟨b13, kb13, rfl, N13q, K13, g_b13, sz13, V13⟩ := hQ13
  have N13 := Fr.app N7 N13q
  have szk13 : h0.size ≤ b13 := Nat.le_trans kp11.1 sz13
  have ne_r0_b13 : r0 ≠ b13 := Nat.ne_of_lt (Nat.lt_of_lt_of_le fa8.lt sz13)
  have fa14 := fa8.keep K13 nin0
  have fa15 := fa9.keep K13 all0
  have z16 : n0 ≤ T13.heap.size := Nat.le_trans z10 K13.1
  have kp17 : Keep h0 T13.heap [] := kp11.trans K13 all0
  obtain ⟨_, _, ⟨T18, L18, k18, n18⟩, -, X18, ⟨Lc18, hQ18, l18, y18, z18⟩, st18⟩ := Jvm.LawKit.callS X13 hx (y := (⟨"java/lang/StringUTF16", "getChar", "([BI)C"⟩ : MethodName)) hown (mvT hZ (hq hw 89 rfl)) (mvT hZ (hq hw 90 rfl)) (mvT hZ (hq hw 17 rfl)) (mvT hZ (hq hw 91 rfl)) (by decide) (backOf (W := 0) (rm20 l Z a0 hw [] b13 (0 : Int32) kb13 (6 : Int32) [(.int (nar .byte ((c0 >>> ((0 : Int32) &&& 31)).toInt8.toInt32))), (.int (nar .byte ((c0 >>> ((8 : Int32) &&& 31)).toInt8.toInt32))), (.int (nar .byte ((c1 >>> ((0 : Int32) &&& 31)).toInt8.toInt32))), (.int (nar .byte ((c1 >>> ((8 : Int32) &&& 31)).toInt8.toInt32))), (.int (nar .byte ((c2 >>> ((0 : Int32) &&& 31)).toInt8.toInt32))), (.int (nar .byte ((c2 >>> ((8 : Int32) &&& 31)).toInt8.toInt32)))] (nar .byte ((c0 >>> ((0 : Int32) &&& 31)).toInt8.toInt32)) (nar .byte ((c0 >>> ((8 : Int32) &&& 31)).toInt8.toInt32)) cst fv T13.heap n0 z16 V13 fa15 (by decide) (by decide) rfl rfl SS) hZ (hq hw 91 rfl) (hq hw 17 rfl) (by decide) (by decide)) (g := (mkF m 32 #[rv r0, iv 0, iv 3, rv b1, iv 0, rv b13] [(.int (0 : Int32)), (.ref b13)])) rfl (by rw [hml]; rfl) (argsL := [(.ref b13), (.int (0 : Int32))]) (rest := []) (lenOf pd_5 rfl) rfl (by show 2 * 0 + _ ≤ _; exact Nat.le_of_eq rfl) (hb hby d4_32) (fun _ _ => ⟨rfl, rfl, (by decide : 2 + 0 ≤ _), (by decide : 9 + 0 ≤ _)⟩)
  dsimp only [Pt.U, Pt.locs, Pt.cells, Pt.slots] at X18 l18 y18 z18 st18 hQ18
  subst l18 y18 z18
  obtain ⟨rfl, N18q, eh18⟩ := hQ18
  have N18 := Fr.app N13 N18q
  have G19 : ∀ t, Steps p.tables e below (T18.setTop (mkF m 38 #[rv r0, iv 0, iv 3, rv b1, iv 0, rv b13] [(.int (255 : Int32)), (.int (fget (nar .byte ((c0 >>> ((0 : Int32) &&& 31)).toInt8.toInt32)) (nar .byte ((c0 >>> ((8 : Int32) &&& 31)).toInt8.toInt32))))])) t → Steps p.tables e below (s₁.setTop (entryFrame m #[(.ref r0), (.int (0 : Int32)), (.int (3 : Int32))] 6)) t := by
   intro t kt
   refine G12 _ ?_
   refine XS.icmpNo X7.here hx rfl (hb hby d4_17) rfl (feq (by decide)).1 ?_
   refine XS.aloadN X7.here hx rfl (hb hby d4_20) rfl rfl ?_
   refine XS.iloadN X7.here hx rfl (hb hby d4_21) rfl ?_
   refine XS.iloadN X7.here hx rfl (hb hby d4_22) rfl ?_
   refine st13 _ ?_
   refine XS.astore X13.here hx rfl (hb hby d4_26) rfl rfl (l' := #[rv r0, iv 0, iv 3, rv b1, iv 0, rv b13]) rfl ?_
   refine XS.aload X13.here hx rfl (hb hby d4_28) rfl rfl ?_
   refine XS.iload X13.here hx rfl (hb hby d4_30) rfl ?_
   show Steps p.tables e below (T13.setTop (mkF m 32 #[rv r0, iv 0, iv 3, rv b1, iv 0, rv b13] [(.int (0 : Int32)), (.ref b13)])) _
   refine st18 _ ?_
   refine XS.sipush X18.here hx rfl (hb hby d4_35) ?_
   exact kt
  have hc38_20 : (255 : Int32) < (fget (nar .byte ((c0 >>> ((0 : Int32) &&& 31)).toInt8.toInt32)) (nar .byte ((c0 >>> ((8 : Int32) &&& 31)).toInt8.toInt32))) := by rw [own_u16 c0 hb0]; exact hq7_0
  obtain ⟨fs, hr, hrun, hended, hW, hsame⟩ := X18.leave (v := some (.ref b13)) (fun h => by rw [Bd.returns] at h; cases h)
  refine ⟨_, _, G19 _ ?_, hrun, hended, _, _, rfl, ?_, ⟨_, rfl⟩, hW, hsame.mono (by decide) (by decide)⟩
  ·skip
   refine XS.icmpYes X18.here hx rfl (pc0 := 38) (pc' := 54) rfl (hb hby d4_38) rfl (tlt hc38_20).2.2.1 (by decide) (by decide) ?_
   refine XS.aload X18.here hx rfl (hb hby d4_54) rfl rfl ?_
   exact retOut X18 hx Bd.returns rfl (Or.inr (Or.inr (Or.inr (Or.inr ⟨rfl, rfl, rfl⟩)))) (hb hby d4_56) hr
  ·show QC3_3 Z r0 c0 c1 c2 ks cst fv h0 n0 _ T18.heap _
   rw [eh18]
   exact Or.inr ⟨b13, kb13, rfl, N18, kp17, g_b13, szk13, (Or.inl hq7_0), V13⟩
 ·skip
  have N7 := Fr.app N0 N7q
  have fa21 := fa2.keep K7 (ninS ne_r0_b1 nin0)
  have fa22 := fa3.keep K7 (allS g_b1 all0)
  have z23 : n0 ≤ T7.heap.size := Nat.le_trans z4 K7.1
  have kp24 : Keep h0 T7.heap [] := kp5.trans K7 (allS (Or.inr sz_b1) all0)
  have G25 : ∀ t, Steps p.tables e below (T7.setTop (mkF m 17 #[rv r0, iv 0, iv 3, rv b1, iv 1, .unset] [(.int (3 : Int32)), (.int (1 : Int32))])) t → Steps p.tables e below (s₁.setTop (entryFrame m #[(.ref r0), (.int (0 : Int32)), (.int (3 : Int32))] 6)) t := by
   intro t kt
   refine G0 _ ?_
   refine XS.iloadN X0.here hx rfl (hb hby d4_0) rfl ?_
   refine st1 _ ?_
   refine XS.astoreN X1.here hx rfl (hb hby d4_3) rfl rfl (l' := #[rv r0, iv 0, iv 3, rv b1, .unset, .unset]) rfl ?_
   refine XS.aloadN X1.here hx rfl (hb hby d4_4) rfl rfl ?_
   refine XS.iloadN X1.here hx rfl (hb hby d4_5) rfl ?_
   refine XS.aloadN X1.here hx rfl (hb hby d4_6) rfl rfl ?_
   refine XS.iconst X1.here hx rfl (hb hby d4_7) ?_
   refine XS.iloadN X1.here hx rfl (hb hby d4_8) rfl ?_
   refine st7 _ ?_
   refine XS.istore X7.here hx rfl (hb hby d4_12) rfl (l' := #[rv r0, iv 0, iv 3, rv b1, iv 1, .unset]) rfl ?_
   refine XS.iload X7.here hx rfl (hb hby d4_14) rfl ?_
   refine XS.iloadN X7.here hx rfl (hb hby d4_16) rfl ?_
   exact kt
  obtain ⟨_, _, ⟨T26, L26, k26, n26⟩, -, X26, ⟨Lc26, hQ26, l26, y26, z26⟩, st26⟩ := Jvm.LawKit.callS X7 hx (y := (⟨"java/lang/StringUTF16", "toBytes", "([CII)[B"⟩ : MethodName)) hown (mvT hZ (hq hw 73 rfl)) (mvT hZ (hq hw 74 rfl)) (mvT hZ (hq hw 17 rfl)) (mvT hZ (hq hw 75 rfl)) (by decide) (backOf (W := 0) (rmTB_3 l Z a0 hw [] r0 c0 c1 c2 ks cst fv T7.heap n0 z23 fa21 fa22 SS) hZ (hq hw 75 rfl) (hq hw 17 rfl) (by decide) (by decide)) (g := (mkF m 23 #[rv r0, iv 0, iv 3, rv b1, iv 1, .unset] [(.int (3 : Int32)), (.int (0 : Int32)), (.ref r0)])) rfl (by rw [hml]; rfl) (argsL := [(.ref r0), (.int (0 : Int32)), (.int (3 : Int32))]) (rest := []) (lenOf pd_11 rfl) rfl (by show 2 * 0 + _ ≤ _; exact Nat.le_of_eq rfl) (hb hby d4_23) (fun _ _ => ⟨rfl, rfl, (by decide : 1 + 1 ≤ _), (by decide : 3 + 6 ≤ _)⟩)
  dsimp only [Pt.U, Pt.locs, Pt.cells, Pt.slots] at X26 l26 y26 z26 st26 hQ26
  subst l26 y26 z26
  obtain ⟨b26, kb26, rfl, N26q, K26, g_b26, sz26, V26⟩ := hQ26
  have N26 := Fr.app N7 N26q
  have szk26 : h0.size ≤ b26 := Nat.le_trans kp24.1 sz26
  have ne_r0_b26 : r0 ≠ b26 := Nat.ne_of_lt (Nat.lt_of_lt_of_le fa21.lt sz26)
  have fa27 := fa21.keep K26 nin0
  have fa28 := fa22.keep K26 all0
  have z29 : n0 ≤ T26.heap.size := Nat.le_trans z23 K26.1
  have kp30 : Keep h0 T26.heap [] := kp24.trans K26 all0
  obtain ⟨_, _, ⟨T31, L31, k31, n31⟩, -, X31, ⟨Lc31, hQ31, l31, y31, z31⟩, st31⟩ := Jvm.LawKit.callS X26 hx (y := (⟨"java/lang/StringUTF16", "getChar", "([BI)C"⟩ : MethodName)) hown (mvT hZ (hq hw 89 rfl)) (mvT hZ (hq hw 90 rfl)) (mvT hZ (hq hw 17 rfl)) (mvT hZ (hq hw 91 rfl)) (by decide) (backOf (W := 0) (rm20 l Z a0 hw [] b26 (1 : Int32) kb26 (6 : Int32) [(.int (nar .byte ((c0 >>> ((0 : Int32) &&& 31)).toInt8.toInt32))), (.int (nar .byte ((c0 >>> ((8 : Int32) &&& 31)).toInt8.toInt32))), (.int (nar .byte ((c1 >>> ((0 : Int32) &&& 31)).toInt8.toInt32))), (.int (nar .byte ((c1 >>> ((8 : Int32) &&& 31)).toInt8.toInt32))), (.int (nar .byte ((c2 >>> ((0 : Int32) &&& 31)).toInt8.toInt32))), (.int (nar .byte ((c2 >>> ((8 : Int32) &&& 31)).toInt8.toInt32)))] (nar .byte ((c1 >>> ((0 : Int32) &&& 31)).toInt8.toInt32)) (nar .byte ((c1 >>> ((8 : Int32) &&& 31)).toInt8.toInt32)) cst fv T26.heap n0 z29 V26 fa28 (by decide) (by decide) rfl rfl SS) hZ (hq hw 91 rfl) (hq hw 17 rfl) (by decide) (by decide)) (g := (mkF m 32 #[rv r0, iv 0, iv 3, rv b1, iv 1, rv b26] [(.int (1 : Int32)), (.ref b26)])) rfl (by rw [hml]; rfl) (argsL := [(.ref b26), (.int (1 : Int32))]) (rest := []) (lenOf pd_5 rfl) rfl (by show 2 * 0 + _ ≤ _; exact Nat.le_of_eq rfl) (hb hby d4_32) (fun _ _ => ⟨rfl, rfl, (by decide : 2 + 0 ≤ _), (by decide : 9 + 0 ≤ _)⟩)
  dsimp only [Pt.U, Pt.locs, Pt.cells, Pt.slots] at X31 l31 y31 z31 st31 hQ31
  subst l31 y31 z31
  obtain ⟨rfl, N31q, eh31⟩ := hQ31
  have N31 := Fr.app N26 N31q
  have G32 : ∀ t, Steps p.tables e below (T31.setTop (mkF m 38 #[rv r0, iv 0, iv 3, rv b1, iv 1, rv b26] [(.int (255 : Int32)), (.int (fget (nar .byte ((c1 >>> ((0 : Int32) &&& 31)).toInt8.toInt32)) (nar .byte ((c1 >>> ((8 : Int32) &&& 31)).toInt8.toInt32))))])) t → Steps p.tables e below (s₁.setTop (entryFrame m #[(.ref r0), (.int (0 : Int32)), (.int (3 : Int32))] 6)) t := by
   intro t kt
   refine G25 _ ?_
   refine XS.icmpNo X7.here hx rfl (hb hby d4_17) rfl (feq (by decide)).1 ?_
   refine XS.aloadN X7.here hx rfl (hb hby d4_20) rfl rfl ?_
   refine XS.iloadN X7.here hx rfl (hb hby d4_21) rfl ?_
   refine XS.iloadN X7.here hx rfl (hb hby d4_22) rfl ?_
   refine st26 _ ?_
   refine XS.astore X26.here hx rfl (hb hby d4_26) rfl rfl (l' := #[rv r0, iv 0, iv 3, rv b1, iv 1, rv b26]) rfl ?_
   refine XS.aload X26.here hx rfl (hb hby d4_28) rfl rfl ?_
   refine XS.iload X26.here hx rfl (hb hby d4_30) rfl ?_
   show Steps p.tables e below (T26.setTop (mkF m 32 #[rv r0, iv 0, iv 3, rv b1, iv 1, rv b26] [(.int (1 : Int32)), (.ref b26)])) _
   refine st31 _ ?_
   refine XS.sipush X31.here hx rfl (hb hby d4_35) ?_
   exact kt
  have hc38_33 : (255 : Int32) < (fget (nar .byte ((c1 >>> ((0 : Int32) &&& 31)).toInt8.toInt32)) (nar .byte ((c1 >>> ((8 : Int32) &&& 31)).toInt8.toInt32))) := by rw [own_u16 c1 hb1]; exact hq7_1
  obtain ⟨fs, hr, hrun, hended, hW, hsame⟩ := X31.leave (v := some (.ref b26)) (fun h => by rw [Bd.returns] at h; cases h)
  refine ⟨_, _, G32 _ ?_, hrun, hended, _, _, rfl, ?_, ⟨_, rfl⟩, hW, hsame.mono (by decide) (by decide)⟩
  ·skip
   refine XS.icmpYes X31.here hx rfl (pc0 := 38) (pc' := 54) rfl (hb hby d4_38) rfl (tlt hc38_33).2.2.1 (by decide) (by decide) ?_
   refine XS.aload X31.here hx rfl (hb hby d4_54) rfl rfl ?_
   exact retOut X31 hx Bd.returns rfl (Or.inr (Or.inr (Or.inr (Or.inr ⟨rfl, rfl, rfl⟩)))) (hb hby d4_56) hr
  ·show QC3_3 Z r0 c0 c1 c2 ks cst fv h0 n0 _ T31.heap _
   rw [eh31]
   exact Or.inr ⟨b26, kb26, rfl, N31, kp30, g_b26, szk26, (Or.inr (Or.inl hq7_1)), V26⟩
 ·skip
  have N7 := Fr.app N0 N7q
  have fa34 := fa2.keep K7 (ninS ne_r0_b1 nin0)
  have fa35 := fa3.keep K7 (allS g_b1 all0)
  have z36 : n0 ≤ T7.heap.size := Nat.le_trans z4 K7.1
  have kp37 : Keep h0 T7.heap [] := kp5.trans K7 (allS (Or.inr sz_b1) all0)
  have G38 : ∀ t, Steps p.tables e below (T7.setTop (mkF m 17 #[rv r0, iv 0, iv 3, rv b1, iv 2, .unset] [(.int (3 : Int32)), (.int (2 : Int32))])) t → Steps p.tables e below (s₁.setTop (entryFrame m #[(.ref r0), (.int (0 : Int32)), (.int (3 : Int32))] 6)) t := by
   intro t kt
   refine G0 _ ?_
   refine XS.iloadN X0.here hx rfl (hb hby d4_0) rfl ?_
   refine st1 _ ?_
   refine XS.astoreN X1.here hx rfl (hb hby d4_3) rfl rfl (l' := #[rv r0, iv 0, iv 3, rv b1, .unset, .unset]) rfl ?_
   refine XS.aloadN X1.here hx rfl (hb hby d4_4) rfl rfl ?_
   refine XS.iloadN X1.here hx rfl (hb hby d4_5) rfl ?_
   refine XS.aloadN X1.here hx rfl (hb hby d4_6) rfl rfl ?_
   refine XS.iconst X1.here hx rfl (hb hby d4_7) ?_
   refine XS.iloadN X1.here hx rfl (hb hby d4_8) rfl ?_
   refine st7 _ ?_
   refine XS.istore X7.here hx rfl (hb hby d4_12) rfl (l' := #[rv r0, iv 0, iv 3, rv b1, iv 2, .unset]) rfl ?_
   refine XS.iload X7.here hx rfl (hb hby d4_14) rfl ?_
   refine XS.iloadN X7.here hx rfl (hb hby d4_16) rfl ?_
   exact kt
  obtain ⟨_, _, ⟨T39, L39, k39, n39⟩, -, X39, ⟨Lc39, hQ39, l39, y39, z39⟩, st39⟩ := Jvm.LawKit.callS X7 hx (y := (⟨"java/lang/StringUTF16", "toBytes", "([CII)[B"⟩ : MethodName)) hown (mvT hZ (hq hw 73 rfl)) (mvT hZ (hq hw 74 rfl)) (mvT hZ (hq hw 17 rfl)) (mvT hZ (hq hw 75 rfl)) (by decide) (backOf (W := 0) (rmTB_3 l Z a0 hw [] r0 c0 c1 c2 ks cst fv T7.heap n0 z36 fa34 fa35 SS) hZ (hq hw 75 rfl) (hq hw 17 rfl) (by decide) (by decide)) (g := (mkF m 23 #[rv r0, iv 0, iv 3, rv b1, iv 2, .unset] [(.int (3 : Int32)), (.int (0 : Int32)), (.ref r0)])) rfl (by rw [hml]; rfl) (argsL := [(.ref r0), (.int (0 : Int32)), (.int (3 : Int32))]) (rest := []) (lenOf pd_11 rfl) rfl (by show 2 * 0 + _ ≤ _; exact Nat.le_of_eq rfl) (hb hby d4_23) (fun _ _ => ⟨rfl, rfl, (by decide : 1 + 1 ≤ _), (by decide : 3 + 6 ≤ _)⟩)
  dsimp only [Pt.U, Pt.locs, Pt.cells, Pt.slots] at X39 l39 y39 z39 st39 hQ39
  subst l39 y39 z39
  obtain ⟨b39, kb39, rfl, N39q, K39, g_b39, sz39, V39⟩ := hQ39
  have N39 := Fr.app N7 N39q
  have szk39 : h0.size ≤ b39 := Nat.le_trans kp37.1 sz39
  have ne_r0_b39 : r0 ≠ b39 := Nat.ne_of_lt (Nat.lt_of_lt_of_le fa34.lt sz39)
  have fa40 := fa34.keep K39 nin0
  have fa41 := fa35.keep K39 all0
  have z42 : n0 ≤ T39.heap.size := Nat.le_trans z36 K39.1
  have kp43 : Keep h0 T39.heap [] := kp37.trans K39 all0
  obtain ⟨_, _, ⟨T44, L44, k44, n44⟩, -, X44, ⟨Lc44, hQ44, l44, y44, z44⟩, st44⟩ := Jvm.LawKit.callS X39 hx (y := (⟨"java/lang/StringUTF16", "getChar", "([BI)C"⟩ : MethodName)) hown (mvT hZ (hq hw 89 rfl)) (mvT hZ (hq hw 90 rfl)) (mvT hZ (hq hw 17 rfl)) (mvT hZ (hq hw 91 rfl)) (by decide) (backOf (W := 0) (rm20 l Z a0 hw [] b39 (2 : Int32) kb39 (6 : Int32) [(.int (nar .byte ((c0 >>> ((0 : Int32) &&& 31)).toInt8.toInt32))), (.int (nar .byte ((c0 >>> ((8 : Int32) &&& 31)).toInt8.toInt32))), (.int (nar .byte ((c1 >>> ((0 : Int32) &&& 31)).toInt8.toInt32))), (.int (nar .byte ((c1 >>> ((8 : Int32) &&& 31)).toInt8.toInt32))), (.int (nar .byte ((c2 >>> ((0 : Int32) &&& 31)).toInt8.toInt32))), (.int (nar .byte ((c2 >>> ((8 : Int32) &&& 31)).toInt8.toInt32)))] (nar .byte ((c2 >>> ((0 : Int32) &&& 31)).toInt8.toInt32)) (nar .byte ((c2 >>> ((8 : Int32) &&& 31)).toInt8.toInt32)) cst fv T39.heap n0 z42 V39 fa41 (by decide) (by decide) rfl rfl SS) hZ (hq hw 91 rfl) (hq hw 17 rfl) (by decide) (by decide)) (g := (mkF m 32 #[rv r0, iv 0, iv 3, rv b1, iv 2, rv b39] [(.int (2 : Int32)), (.ref b39)])) rfl (by rw [hml]; rfl) (argsL := [(.ref b39), (.int (2 : Int32))]) (rest := []) (lenOf pd_5 rfl) rfl (by show 2 * 0 + _ ≤ _; exact Nat.le_of_eq rfl) (hb hby d4_32) (fun _ _ => ⟨rfl, rfl, (by decide : 2 + 0 ≤ _), (by decide : 9 + 0 ≤ _)⟩)
  dsimp only [Pt.U, Pt.locs, Pt.cells, Pt.slots] at X44 l44 y44 z44 st44 hQ44
  subst l44 y44 z44
  obtain ⟨rfl, N44q, eh44⟩ := hQ44
  have N44 := Fr.app N39 N44q
  have G45 : ∀ t, Steps p.tables e below (T44.setTop (mkF m 38 #[rv r0, iv 0, iv 3, rv b1, iv 2, rv b39] [(.int (255 : Int32)), (.int (fget (nar .byte ((c2 >>> ((0 : Int32) &&& 31)).toInt8.toInt32)) (nar .byte ((c2 >>> ((8 : Int32) &&& 31)).toInt8.toInt32))))])) t → Steps p.tables e below (s₁.setTop (entryFrame m #[(.ref r0), (.int (0 : Int32)), (.int (3 : Int32))] 6)) t := by
   intro t kt
   refine G38 _ ?_
   refine XS.icmpNo X7.here hx rfl (hb hby d4_17) rfl (feq (by decide)).1 ?_
   refine XS.aloadN X7.here hx rfl (hb hby d4_20) rfl rfl ?_
   refine XS.iloadN X7.here hx rfl (hb hby d4_21) rfl ?_
   refine XS.iloadN X7.here hx rfl (hb hby d4_22) rfl ?_
   refine st39 _ ?_
   refine XS.astore X39.here hx rfl (hb hby d4_26) rfl rfl (l' := #[rv r0, iv 0, iv 3, rv b1, iv 2, rv b39]) rfl ?_
   refine XS.aload X39.here hx rfl (hb hby d4_28) rfl rfl ?_
   refine XS.iload X39.here hx rfl (hb hby d4_30) rfl ?_
   show Steps p.tables e below (T39.setTop (mkF m 32 #[rv r0, iv 0, iv 3, rv b1, iv 2, rv b39] [(.int (2 : Int32)), (.ref b39)])) _
   refine st44 _ ?_
   refine XS.sipush X44.here hx rfl (hb hby d4_35) ?_
   exact kt
  have hc38_46 : (255 : Int32) < (fget (nar .byte ((c2 >>> ((0 : Int32) &&& 31)).toInt8.toInt32)) (nar .byte ((c2 >>> ((8 : Int32) &&& 31)).toInt8.toInt32))) := by rw [own_u16 c2 hb2]; exact hq7_2
  obtain ⟨fs, hr, hrun, hended, hW, hsame⟩ := X44.leave (v := some (.ref b39)) (fun h => by rw [Bd.returns] at h; cases h)
  refine ⟨_, _, G45 _ ?_, hrun, hended, _, _, rfl, ?_, ⟨_, rfl⟩, hW, hsame.mono (by decide) (by decide)⟩
  ·skip
   refine XS.icmpYes X44.here hx rfl (pc0 := 38) (pc' := 54) rfl (hb hby d4_38) rfl (tlt hc38_46).2.2.1 (by decide) (by decide) ?_
   refine XS.aload X44.here hx rfl (hb hby d4_54) rfl rfl ?_
   exact retOut X44 hx Bd.returns rfl (Or.inr (Or.inr (Or.inr (Or.inr ⟨rfl, rfl, rfl⟩)))) (hb hby d4_56) hr
  ·show QC3_3 Z r0 c0 c1 c2 ks cst fv h0 n0 _ T44.heap _
   rw [eh44]
   exact Or.inr ⟨b39, kb39, rfl, N44, kp43, g_b39, szk39, (Or.inr (Or.inr (hq7_2))), V39⟩
 ·skip
  have N7 := Fr.app N0 N7q
  have fa47 := fa2.keep K7 (ninS ne_r0_b1 nin0)
  have fa48 := fa3.keep K7 (allS g_b1 all0)
  have z49 : n0 ≤ T7.heap.size := Nat.le_trans z4 K7.1
  have kp50 : Keep h0 T7.heap [] := kp5.trans K7 (allS (Or.inr sz_b1) all0)
  have G51 : ∀ t, Steps p.tables e below (T7.setTop (mkF m 17 #[rv r0, iv 0, iv 3, rv b1, iv 3, .unset] [(.int (3 : Int32)), (.int (3 : Int32))])) t → Steps p.tables e below (s₁.setTop (entryFrame m #[(.ref r0), (.int (0 : Int32)), (.int (3 : Int32))] 6)) t := by
   intro t kt
   refine G0 _ ?_
   refine XS.iloadN X0.here hx rfl (hb hby d4_0) rfl ?_
   refine st1 _ ?_
   refine XS.astoreN X1.here hx rfl (hb hby d4_3) rfl rfl (l' := #[rv r0, iv 0, iv 3, rv b1, .unset, .unset]) rfl ?_
   refine XS.aloadN X1.here hx rfl (hb hby d4_4) rfl rfl ?_
   refine XS.iloadN X1.here hx rfl (hb hby d4_5) rfl ?_
   refine XS.aloadN X1.here hx rfl (hb hby d4_6) rfl rfl ?_
   refine XS.iconst X1.here hx rfl (hb hby d4_7) ?_
   refine XS.iloadN X1.here hx rfl (hb hby d4_8) rfl ?_
   refine st7 _ ?_
   refine XS.istore X7.here hx rfl (hb hby d4_12) rfl (l' := #[rv r0, iv 0, iv 3, rv b1, iv 3, .unset]) rfl ?_
   refine XS.iload X7.here hx rfl (hb hby d4_14) rfl ?_
   refine XS.iloadN X7.here hx rfl (hb hby d4_16) rfl ?_
   exact kt
  obtain ⟨fs, hr, hrun, hended, hW, hsame⟩ := X7.leave (v := some (.ref b1)) (fun h => by rw [Bd.returns] at h; cases h)
  refine ⟨_, _, G51 _ ?_, hrun, hended, _, _, rfl, ?_, ⟨_, rfl⟩, hW, hsame.mono (by decide) (by decide)⟩
  ·skip
   refine XS.icmpYes X7.here hx rfl (pc0 := 17) (pc' := 57) rfl (hb hby d4_17) rfl (teq (by decide)).1 (by decide) (by decide) ?_
   refine XS.aloadN X7.here hx rfl (hb hby d4_57) rfl rfl ?_
   exact retOut X7 hx Bd.returns rfl (Or.inr (Or.inr (Or.inr (Or.inr ⟨rfl, rfl, rfl⟩)))) (hb hby d4_58) hr
  ·show QC3_3 Z r0 c0 c1 c2 ks cst fv h0 n0 _ T7.heap _
   exact Or.inl ⟨b1, k1, rfl, N7, kp50, g_b1, sz_b1, ⟨hq7_0, hq7_1, hq7_2⟩, V7⟩
def QCF_3_3 (Z : State) (r0 : Addr) (kk : ClassId) (vs : List Value) (h0 : Heap) (n0 : Nat) (v : Option Value) (h : Heap) (L : List Loc) : Prop := v = some (.int (0 : Int32)) ∧ Fr n0 L ∧ h = h0
theorem ef_rmCF_3_3 (m : MethodId) (x0 : Addr) (x1 : Int32) : entryFrame m #[(.ref x0), (.int x1)] 2 = mkF m 0 #[.val (.ref x0), .val (.int x1)] [] := by first | (simp [entryFrame, mkF, argsToLocals, Value.category]; done) | rfl
set_option maxRecDepth 65536 in
set_option maxHeartbeats 40000000 in
theorem rmCF_3_3 (l : Launch) (Z : State) (a0 : Array Value) (hw : ∀ d ∈ tables_1, d.before a0 Z = true) (ws : List Jvm.Cond) (r0 : Addr) (kk : ClassId) (vs : List Value) (h0 : Heap) (n0 : Nat) (Z0 : n0 ≤ h0.size) (V0 : Arv Z h0 r0 kk .byte (3 : Int32) vs (.int (0 : Int32))) :
  MetFree l (⟨"java/lang/StringUTF16", "coderFromArrayLen", "([BI)B"⟩ : MethodName) (head1 (Jvm.Cond.code (⟨"java/lang/StringUTF16", "coderFromArrayLen", "([BI)B"⟩ : MethodName) jdk_52_method_15_code 2 (some .byte) :: ws) ({ frames := 0, cells := 0, slots := 0, locals := 0 } : Room)) (fun a U => a = #[(.ref r0), (.int (3 : Int32))] ∧ Z.Warmed39 U.vm ∧ U.heap = h0) (fun _ _ _ _ _ => True) (fun _ U o U' => ∃ v L, o = .returned v ∧ QCF_3_3 Z r0 kk vs h0 n0 v U'.heap L ∧ FrameEnd U o U' L ({ frames := 0, cells := 0, slots := 0, locals := 0 } : Room).cells ({ frames := 0, cells := 0, slots := 0, locals := 0 } : Room).slots) := by
 refine MetFree.of_bodySF (plainFor_of_name pnc_java_lang_StringUTF16) hisR ?_
 intro p e s m args below meth c s₁ Bd hml0 hP hK
 obtain ⟨rfl, hZ, hh⟩ := hP
 have hx := Bd.exec
 have hby := Bd.bytes
 have hml : c.maxLocals = 2 := hml0
 have hown : s.vm.findClass "java/lang/StringUTF16" = some m.cls := findClass_of_methodNamed Bd.named
 have hnm := (name_of_methodNamed Bd.named Bd.method).1
 have X0 : Stand p l e ({ frames := 0, cells := 0, slots := 0, locals := 0 } : Room) s m #[(.ref r0), (.int (3 : Int32))] below meth c s₁ [] 0 0 := Stand.of_body Bd
 have e0 : s₁.heap = h0 := by rw [← hh, Bd.state]; rfl
 have N0 := Fr.nil n0
 have kp0 : Keep h0 h0 [] := Keep.refl _ _
 have G0 : ∀ t, Steps p.tables e below (s₁.setTop (mkF m 0 #[rv r0, iv 3] [])) t → Steps p.tables e below (s₁.setTop (entryFrame m #[(.ref r0), (.int (3 : Int32))] 2)) t := fun t k => castTop (ef_rmCF_3_3 m r0 (3 : Int32)) k
 obtain ⟨cl1, Ar1, q1, S1, M1, H1, G1⟩ := id V0
 obtain ⟨fs, hr, hrun, hended, hW, hsame⟩ := X0.leave (v := some (.int (0 : Int32))) (fun h => by rw [Bd.returns] at h; cases h)
 refine ⟨_, _, G0 _ ?_, hrun, hended, _, _, rfl, ?_, ⟨_, rfl⟩, hW, hsame.mono (by decide) (by decide)⟩
 ·skip
  refine XS.iloadN X0.here hx rfl (hb hby d6_0) rfl ?_
  refine XS.aloadN X0.here hx rfl (hb hby d6_1) rfl rfl ?_
  refine X0.arraylength hx (by rw [e0]; exact Ar1.1) (State.isArrayOf_alike hZ.alike Ar1.2.1) (g := (mkF m 2 #[rv r0, iv 3] [(.ref r0), (.int (3 : Int32))])) rfl rfl (hb hby d6_2) _ ?_
  rw [len_of S1 M1]
  refine XS.isub X0.here hx rfl (hb hby d6_3) rfl ?_
  refine XS.bipush X0.here hx rfl (hb hby d6_4) ?_
  refine XS.iushr X0.here hx rfl (hb hby d6_6) rfl ?_
  refine XS.i2b X0.here hx rfl (hb hby d6_7) rfl ?_
  exact retN X0 hx (t := .byte) Bd.returns (by simp) (hb hby d6_8) hr
 ·show QCF_3_3 Z r0 kk vs h0 n0 _ s₁.heap _
  rw [e0]
  exact ⟨rfl, N0, rfl⟩
def QCF_3_6 (Z : State) (r0 : Addr) (kk : ClassId) (vs : List Value) (h0 : Heap) (n0 : Nat) (v : Option Value) (h : Heap) (L : List Loc) : Prop := v = some (.int (1 : Int32)) ∧ Fr n0 L ∧ h = h0
theorem ef_rmCF_3_6 (m : MethodId) (x0 : Addr) (x1 : Int32) : entryFrame m #[(.ref x0), (.int x1)] 2 = mkF m 0 #[.val (.ref x0), .val (.int x1)] [] := by first | (simp [entryFrame, mkF, argsToLocals, Value.category]; done) | rfl
set_option maxRecDepth 65536 in
set_option maxHeartbeats 40000000 in
theorem rmCF_3_6 (l : Launch) (Z : State) (a0 : Array Value) (hw : ∀ d ∈ tables_1, d.before a0 Z = true) (ws : List Jvm.Cond) (r0 : Addr) (kk : ClassId) (vs : List Value) (h0 : Heap) (n0 : Nat) (Z0 : n0 ≤ h0.size) (V0 : Arv Z h0 r0 kk .byte (6 : Int32) vs (.int (0 : Int32))) :
  MetFree l (⟨"java/lang/StringUTF16", "coderFromArrayLen", "([BI)B"⟩ : MethodName) (head1 (Jvm.Cond.code (⟨"java/lang/StringUTF16", "coderFromArrayLen", "([BI)B"⟩ : MethodName) jdk_52_method_15_code 2 (some .byte) :: ws) ({ frames := 0, cells := 0, slots := 0, locals := 0 } : Room)) (fun a U => a = #[(.ref r0), (.int (3 : Int32))] ∧ Z.Warmed39 U.vm ∧ U.heap = h0) (fun _ _ _ _ _ => True) (fun _ U o U' => ∃ v L, o = .returned v ∧ QCF_3_6 Z r0 kk vs h0 n0 v U'.heap L ∧ FrameEnd U o U' L ({ frames := 0, cells := 0, slots := 0, locals := 0 } : Room).cells ({ frames := 0, cells := 0, slots := 0, locals := 0 } : Room).slots) := by
 refine MetFree.of_bodySF (plainFor_of_name pnc_java_lang_StringUTF16) hisR ?_
 intro p e s m args below meth c s₁ Bd hml0 hP hK
 obtain ⟨rfl, hZ, hh⟩ := hP
 have hx := Bd.exec
 have hby := Bd.bytes
 have hml : c.maxLocals = 2 := hml0
 have hown : s.vm.findClass "java/lang/StringUTF16" = some m.cls := findClass_of_methodNamed Bd.named
 have hnm := (name_of_methodNamed Bd.named Bd.method).1
 have X0 : Stand p l e ({ frames := 0, cells := 0, slots := 0, locals := 0 } : Room) s m #[(.ref r0), (.int (3 : Int32))] below meth c s₁ [] 0 0 := Stand.of_body Bd
 have e0 : s₁.heap = h0 := by rw [← hh, Bd.state]; rfl
 have N0 := Fr.nil n0
 have kp0 : Keep h0 h0 [] := Keep.refl _ _
 have G0 : ∀ t, Steps p.tables e below (s₁.setTop (mkF m 0 #[rv r0, iv 3] [])) t → Steps p.tables e below (s₁.setTop (entryFrame m #[(.ref r0), (.int (3 : Int32))] 2)) t := fun t k => castTop (ef_rmCF_3_6 m r0 (3 : Int32)) k
 obtain ⟨cl1, Ar1, q1, S1, M1, H1, G1⟩ := id V0
 obtain ⟨fs, hr, hrun, hended, hW, hsame⟩ := X0.leave (v := some (.int (1 : Int32))) (fun h => by rw [Bd.returns] at h; cases h)
 refine ⟨_, _, G0 _ ?_, hrun, hended, _, _, rfl, ?_, ⟨_, rfl⟩, hW, hsame.mono (by decide) (by decide)⟩
 ·skip
  refine XS.iloadN X0.here hx rfl (hb hby d6_0) rfl ?_
  refine XS.aloadN X0.here hx rfl (hb hby d6_1) rfl rfl ?_
  refine X0.arraylength hx (by rw [e0]; exact Ar1.1) (State.isArrayOf_alike hZ.alike Ar1.2.1) (g := (mkF m 2 #[rv r0, iv 3] [(.ref r0), (.int (3 : Int32))])) rfl rfl (hb hby d6_2) _ ?_
  rw [len_of S1 M1]
  refine XS.isub X0.here hx rfl (hb hby d6_3) rfl ?_
  refine XS.bipush X0.here hx rfl (hb hby d6_4) ?_
  refine XS.iushr X0.here hx rfl (hb hby d6_6) rfl ?_
  refine XS.i2b X0.here hx rfl (hb hby d6_7) rfl ?_
  exact retN X0 hx (t := .byte) Bd.returns (by simp) (hb hby d6_8) hr
 ·show QCF_3_6 Z r0 kk vs h0 n0 _ s₁.heap _
  rw [e0]
  exact ⟨rfl, N0, rfl⟩
def QSE_3 (Z : State) (r0 : Addr) (r1 : Addr) (c0 c1 c2 : Int32) (ks : ClassId) (cst : Int32) (fv : Value) (h0 : Heap) (n0 : Nat) (v : Option Value) (h : Heap) (L : List Loc) : Prop := (v = none ∧ Fr n0 L ∧ Keep h0 h [r0] ∧ Exa Z h r0 "java/lang/String" ∧ (¬ ((255 : Int32) < c0) ∧ ¬ ((255 : Int32) < c1) ∧ ¬ ((255 : Int32) < c2)) ∧ Fld Z h r0 "java/lang/String" "coder" "B" (.int (0 : Int32)) ∧ ∃ (t : Addr) (k : ClassId), Fld Z h r0 "java/lang/String" "value" "[B" (.ref t) ∧ h0.size ≤ t ∧ n0 ≤ t ∧ Arv Z h t k .byte (3 : Int32) [(.int (nar .byte (c0.toInt8.toInt32))), (.int (nar .byte (c1.toInt8.toInt32))), (.int (nar .byte (c2.toInt8.toInt32)))] (.int (0 : Int32))) ∨ (v = none ∧ Fr n0 L ∧ Keep h0 h [r0] ∧ Exa Z h r0 "java/lang/String" ∧ ((255 : Int32) < c0 ∨ (255 : Int32) < c1 ∨ (255 : Int32) < c2) ∧ Fld Z h r0 "java/lang/String" "coder" "B" (.int (1 : Int32)) ∧ ∃ (t : Addr) (k : ClassId), Fld Z h r0 "java/lang/String" "value" "[B" (.ref t) ∧ h0.size ≤ t ∧ n0 ≤ t ∧ Arv Z h t k .byte (6 : Int32) [(.int (nar .byte ((c0 >>> ((0 : Int32) &&& 31)).toInt8.toInt32))), (.int (nar .byte ((c0 >>> ((8 : Int32) &&& 31)).toInt8.toInt32))), (.int (nar .byte ((c1 >>> ((0 : Int32) &&& 31)).toInt8.toInt32))), (.int (nar .byte ((c1 >>> ((8 : Int32) &&& 31)).toInt8.toInt32))), (.int (nar .byte ((c2 >>> ((0 : Int32) &&& 31)).toInt8.toInt32))), (.int (nar .byte ((c2 >>> ((8 : Int32) &&& 31)).toInt8.toInt32)))] (.int (0 : Int32)))
theorem ef_rmSE_3 (m : MethodId) (x0 : Addr) (x1 : Addr) (x2 : Int32) (x3 : Int32) : entryFrame m #[(.ref x0), (.ref x1), (.int x2), (.int x3), .null] 6 = mkF m 0 #[.val (.ref x0), .val (.ref x1), .val (.int x2), .val (.int x3), .val .null, .unset] [] := by first | (simp [entryFrame, mkF, argsToLocals, Value.category]; done) | rfl
set_option maxRecDepth 65536 in
set_option maxHeartbeats 40000000 in
theorem rmSE_3 (l : Launch) (Z : State) (a0 : Array Value) (hw : ∀ d ∈ tables_1, d.before a0 Z = true) (ws : List Jvm.Cond) (r0 : Addr) (r1 : Addr) (c0 c1 c2 : Int32) (ks : ClassId) (cst : Int32) (fv : Value) (h0 : Heap) (n0 : Nat) (Z0 : n0 ≤ h0.size) (E0 : Exa Z h0 r0 "java/lang/String") (Fv : Fld Z h0 r0 "java/lang/String" "value" "[B" .null) (Fc : Fld Z h0 r0 "java/lang/String" "coder" "B" (.int (0 : Int32))) (Vs : Arv Z h0 r1 ks .char (3 : Int32) [(.int c0), (.int c1), (.int c2)] (.int (0 : Int32))) (O0 : Old Z n0 h0) (g_r0 : n0 ≤ r0) (hne : r0 ≠ r1) (hb0 : 0 ≤ c0.toInt ∧ c0.toInt ≤ 65535) (hb1 : 0 ≤ c1.toInt ∧ c1.toInt ≤ 65535) (hb2 : 0 ≤ c2.toInt ∧ c2.toInt ≤ 65535) (SS : Sts Z cst fv) :
  MetFree l (⟨"java/lang/String", "<init>", "([CIILjava/lang/Void;)V"⟩ : MethodName) (head1 (Jvm.Cond.code (⟨"java/lang/String", "<init>", "([CIILjava/lang/Void;)V"⟩ : MethodName) jdk_42_method_149_code 6 none :: ws) ({ frames := 4, cells := 2, slots := 9, locals := 57 } : Room)) (fun a U => a = #[(.ref r0), (.ref r1), (.int (0 : Int32)), (.int (3 : Int32)), .null] ∧ Z.Warmed39 U.vm ∧ U.heap = h0) (fun _ _ _ _ _ => True) (fun _ U o U' => ∃ v L, o = .returned v ∧ QSE_3 Z r0 r1 c0 c1 c2 ks cst fv h0 n0 v U'.heap L ∧ FrameEnd U o U' L ({ frames := 4, cells := 2, slots := 9, locals := 57 } : Room).cells ({ frames := 4, cells := 2, slots := 9, locals := 57 } : Room).slots) := by
 refine MetFree.of_bodySF (plainFor_of_name pnc_java_lang_String) hisR ?_
 intro p e s m args below meth c s₁ Bd hml0 hP hK
 obtain ⟨rfl, hZ, hh⟩ := hP
 have hx := Bd.exec
 have hby := Bd.bytes
 have hml : c.maxLocals = 6 := hml0
 have hown : s.vm.findClass "java/lang/String" = some m.cls := findClass_of_methodNamed Bd.named
 have hnm := (name_of_methodNamed Bd.named Bd.method).1
 have X0 : Stand p l e ({ frames := 4, cells := 2, slots := 9, locals := 57 } : Room) s m #[(.ref r0), (.ref r1), (.int (0 : Int32)), (.int (3 : Int32)), .null] below meth c s₁ [] 0 0 := Stand.of_body Bd
 have e0 : s₁.heap = h0 := by rw [← hh, Bd.state]; rfl
 have N0 := Fr.nil n0
 have kp0 : Keep h0 h0 [r0] := Keep.refl _ _
 have G0 : ∀ t, Steps p.tables e below (s₁.setTop (mkF m 0 #[rv r0, rv r1, iv 0, iv 3, .val .null, .unset] [])) t → Steps p.tables e below (s₁.setTop (entryFrame m #[(.ref r0), (.ref r1), (.int (0 : Int32)), (.int (3 : Int32)), .null] 6)) t := fun t k => castTop (ef_rmSE_3 m r0 r1 (0 : Int32) (3 : Int32)) k
 obtain ⟨T1, X1, e1, st1⟩ := initO X0 hx hZ hown (hq hw 11 rfl) (hq hw 12 rfl) (hq hw 13 rfl) e0 (g := (mkF m 1 #[rv r0, rv r1, iv 0, iv 3, .val .null, .unset] [(.ref r0)])) rfl (by rw [hml]; rfl) rfl (hb hby d2_1) (by decide) (W := 0) (by show 2 * 0 + _ ≤ _; exact Nat.le_of_eq rfl) (by decide)
 have G2 : ∀ t, Steps p.tables e below (T1.setTop (mkF m 5 #[rv r0, rv r1, iv 0, iv 3, .val .null, .unset] [(.int (3 : Int32))])) t → Steps p.tables e below (s₁.setTop (entryFrame m #[(.ref r0), (.ref r1), (.int (0 : Int32)), (.int (3 : Int32)), .null] 6)) t := by
  intro t kt
  refine G0 _ ?_
  refine XS.aloadN X0.here hx rfl (hb hby d2_0) rfl rfl ?_
  refine st1 _ ?_
  refine XS.iloadN X1.here hx rfl (hb hby d2_4) rfl ?_
  exact kt
 obtain ⟨T3, X3, e3, st3⟩ := getS2 X1 hx hZ hown (host := "") (Or.inl (hq hw 14 rfl)) Via.refl e1 (SS.1.ext O0.2) (g := (mkF m 27 #[rv r0, rv r1, iv 0, iv 3, .val .null, .unset] [])) rfl (hb hby d2_27)
 have G4 : ∀ t, Steps p.tables e below (T3.setTop (mkF m 30 #[rv r0, rv r1, iv 0, iv 3, .val .null, .unset] [(.int cst)])) t → Steps p.tables e below (s₁.setTop (entryFrame m #[(.ref r0), (.ref r1), (.int (0 : Int32)), (.int (3 : Int32)), .null] 6)) t := by
  intro t kt
  refine G2 _ ?_
  refine XS.ifYes X1.here hx rfl (pc0 := 5) (pc' := 27) rfl (hb hby d2_5) rfl ((if0 _ _).trans (feq (by decide)).2) (by decide) (by decide) ?_
  refine st3 _ ?_
  exact kt
 have hc30_5 : ¬ (cst = (0 : Int32)) := SS.2.1
 obtain ⟨_, _, ⟨T6, L6, k6, n6⟩, -, X6, ⟨Lc6, hQ6, l6, y6, z6⟩, st6⟩ := Jvm.LawKit.callS X3 hx (y := (⟨"java/lang/StringUTF16", "compress", "([CII)[B"⟩ : MethodName)) hown (mvT hZ (hq hw 15 rfl)) (mvT hZ (hq hw 16 rfl)) (mvT hZ (hq hw 17 rfl)) (mvT hZ (hq hw 18 rfl)) (by decide) (backOf (W := 0) (rmC3_3 l Z a0 hw [] r1 c0 c1 c2 ks cst fv h0 n0 Z0 Vs O0 hb0 hb1 hb2 SS) hZ (hq hw 18 rfl) (hq hw 17 rfl) (by decide) (by decide)) (g := (mkF m 36 #[rv r0, rv r1, iv 0, iv 3, .val .null, .unset] [(.int (3 : Int32)), (.int (0 : Int32)), (.ref r1)])) rfl (by rw [hml]; rfl) (argsL := [(.ref r1), (.int (0 : Int32)), (.int (3 : Int32))]) (rest := []) (lenOf pd_11 rfl) rfl (by show 2 * 0 + _ ≤ _; exact Nat.le_of_eq rfl) (hb hby d2_36) (fun _ _ => ⟨rfl, e3, (by decide : 0 + 2 ≤ _), (by decide : 0 + 9 ≤ _)⟩)
 dsimp only [Pt.U, Pt.locs, Pt.cells, Pt.slots] at X6 l6 y6 z6 st6 hQ6
 subst l6 y6 z6
 rcases hQ6 with ⟨b6, kb6, rfl, N6q, K6, g_b6, sz6, hq6, V6⟩ | ⟨b6, kb6, rfl, N6q, K6, g_b6, sz6, hq6, V6⟩
 ·skip
  have N6 := Fr.app N0 N6q
  have szk6 : h0.size ≤ b6 := Nat.le_trans kp0.1 sz6
  have ne_r0_b6 : r0 ≠ b6 := Nat.ne_of_lt (Nat.lt_of_lt_of_le E0.lt sz6)
  have ne_r1_b6 : r1 ≠ b6 := Nat.ne_of_lt (Nat.lt_of_lt_of_le Vs.lt sz6)
  have fa7 := E0.keep K6
  have fa8 := Fv.keep K6 nin0
  have fa9 := Fc.keep K6 nin0
  have fa10 := Vs.keep K6 nin0
  have fa11 := O0.keep K6 all0
  have z12 : n0 ≤ T6.heap.size := Nat.le_trans Z0 K6.1
  have kp13 : Keep h0 T6.heap [r0] := kp0.trans K6 all0
  obtain ⟨_, _, ⟨T14, L14, k14, n14⟩, -, X14, ⟨Lc14, hQ14, l14, y14, z14⟩, st14⟩ := Jvm.LawKit.callS X6 hx (y := (⟨"java/lang/StringUTF16", "coderFromArrayLen", "([BI)B"⟩ : MethodName)) hown (mvT hZ (hq hw 23 rfl)) (mvT hZ (hq hw 24 rfl)) (mvT hZ (hq hw 17 rfl)) (mvT hZ (hq hw 25 rfl)) (by decide) (backOf (W := 1) (rmCF_3_3 l Z a0 hw [] b6 kb6 [(.int (nar .byte (c0.toInt8.toInt32))), (.int (nar .byte (c1.toInt8.toInt32))), (.int (nar .byte (c2.toInt8.toInt32)))] T6.heap n0 z12 V6) hZ (hq hw 25 rfl) (hq hw 17 rfl) (by decide) (by decide)) (g := (mkF m 45 #[rv r0, rv r1, iv 0, iv 3, .val .null, rv b6] [(.int (3 : Int32)), (.ref b6), (.ref r0)])) rfl (by rw [hml]; rfl) (argsL := [(.ref b6), (.int (3 : Int32))]) (rest := [(.ref r0)]) (lenOf pd_12 rfl) rfl (by show 2 * 0 + _ ≤ _; exact Nat.le_of_eq rfl) (hb hby d2_45) (fun _ _ => ⟨rfl, rfl, (by decide : 2 + 0 ≤ _), (by decide : 9 + 0 ≤ _)⟩)
  dsimp only [Pt.U, Pt.locs, Pt.cells, Pt.slots] at X14 l14 y14 z14 st14 hQ14
  subst l14 y14 z14
  obtain ⟨rfl, N14q, eh14⟩ := hQ14
  have N14 := Fr.app N6 N14q
  obtain ⟨T15, h15, X15, e15, W15, st15⟩ := putFN X14 hx hZ hown (hq hw 26 rfl) Via.refl eh14 fa9 fa7 (Or.inr ⟨(hq hw 27 rfl), rfl, hnm⟩) (hq hw 2 rfl) (ty := .byte) (v' := (.int (0 : Int32))) (by decide) rfl (fits_nar_byte (0 : Int32)) (g := (mkF m 48 #[rv r0, rv r1, iv 0, iv 3, .val .null, rv b6] [(.int (0 : Int32)), (.ref r0)])) rfl rfl (hb hby d2_48)
  have fa16 := fa7.wr W15
  have fa17 := fa8.other W15 (Or.inr (slot_ne (Or.inr (hq hw 29 rfl)) (Or.inr (hq hw 27 rfl)) (by decide) (t := (.array .byte)) (t' := .byte) (by decide) (by decide)))
  have fa18 : Fld Z h15 r0 "java/lang/String" "coder" "B" (.int (0 : Int32)) := fa9.same W15
  have fa19 := fa10.other W15 (Ne.symm hne)
  have fa20 := fa11.wr W15 g_r0
  have fa21 := V6.other W15 (Ne.symm ne_r0_b6)
  have z22 : n0 ≤ h15.size := Nat.le_trans z12 (Nat.le_of_eq W15.size.symm)
  have kp23 : Keep h0 h15 [r0] := kp13.wr W15 (Or.inl (List.mem_of_getElem? (i := 0) rfl))
  have N15 := Fr.snoc X15 N14 g_r0
  obtain ⟨T24, h24, X24, e24, W24, st24⟩ := putF X15 hx hZ hown (host := "") (Or.inl (hq hw 28 rfl)) Via.refl e15 fa17 fa16 (Or.inr ⟨(hq hw 29 rfl), rfl, hnm⟩) (hq hw 2 rfl) (ty := (.array .byte)) (by decide) rfl rfl (g := (mkF m 54 #[rv r0, rv r1, iv 0, iv 3, .val .null, rv b6] [(.ref b6), (.ref r0)])) rfl rfl (hb hby d2_54)
  have fa25 := fa16.wr W24
  have fa26 : Fld Z h24 r0 "java/lang/String" "value" "[B" (.ref b6) := fa17.same W24
  have fa27 := fa18.other W24 (Or.inr (slot_ne (Or.inr (hq hw 27 rfl)) (Or.inr (hq hw 29 rfl)) (by decide) (t := .byte) (t' := (.array .byte)) (by decide) (by decide)))
  have fa28 := fa19.other W24 (Ne.symm hne)
  have fa29 := fa20.wr W24 g_r0
  have fa30 := fa21.other W24 (Ne.symm ne_r0_b6)
  have z31 : n0 ≤ h24.size := Nat.le_trans z22 (Nat.le_of_eq W24.size.symm)
  have kp32 : Keep h0 h24 [r0] := kp23.wr W24 (Or.inl (List.mem_of_getElem? (i := 0) rfl))
  have N24 := Fr.snoc X24 N15 g_r0
  obtain ⟨fs, hr, hrun, hended, hW, hsame⟩ := X24.leave (v := none) (fun _ => rfl)
  refine ⟨_, _, G4 _ ?_, hrun, hended, _, _, rfl, ?_, ⟨_, rfl⟩, hW, hsame.mono (by decide) (by decide)⟩
  ·skip
   refine XS.ifNo X3.here hx rfl (hb hby d2_30) rfl ((if0 _ _).trans (feq hc30_5).1) ?_
   refine XS.aloadN X3.here hx rfl (hb hby d2_33) rfl rfl ?_
   refine XS.iloadN X3.here hx rfl (hb hby d2_34) rfl ?_
   refine XS.iloadN X3.here hx rfl (hb hby d2_35) rfl ?_
   refine st6 _ ?_
   refine XS.astore X6.here hx rfl (hb hby d2_39) rfl rfl (l' := #[rv r0, rv r1, iv 0, iv 3, .val .null, rv b6]) rfl ?_
   refine XS.aloadN X6.here hx rfl (hb hby d2_41) rfl rfl ?_
   refine XS.aload X6.here hx rfl (hb hby d2_42) rfl rfl ?_
   refine XS.iloadN X6.here hx rfl (hb hby d2_44) rfl ?_
   refine st14 _ ?_
   refine st15 _ ?_
   refine XS.aloadN X15.here hx rfl (hb hby d2_51) rfl rfl ?_
   refine XS.aload X15.here hx rfl (hb hby d2_52) rfl rfl ?_
   refine st24 _ ?_
   exact X24.returnOut hx Bd.returns (hb hby d2_57) hr
  ·show QSE_3 Z r0 r1 c0 c1 c2 ks cst fv h0 n0 _ T24.heap _
   rw [e24]
   exact Or.inl ⟨rfl, N24, kp32, fa25, hq6, fa27, b6, kb6, fa26, szk6, g_b6, fa30⟩
 ·skip
  have N6 := Fr.app N0 N6q
  have szk6 : h0.size ≤ b6 := Nat.le_trans kp0.1 sz6
  have ne_r0_b6 : r0 ≠ b6 := Nat.ne_of_lt (Nat.lt_of_lt_of_le E0.lt sz6)
  have ne_r1_b6 : r1 ≠ b6 := Nat.ne_of_lt (Nat.lt_of_lt_of_le Vs.lt sz6)
  have fa33 := E0.keep K6
  have fa34 := Fv.keep K6 nin0
  have fa35 := Fc.keep K6 nin0
  have fa36 := Vs.keep K6 nin0
  have fa37 := O0.keep K6 all0
  have z38 : n0 ≤ T6.heap.size := Nat.le_trans Z0 K6.1
  have kp39 : Keep h0 T6.heap [r0] := kp0.trans K6 all0
  obtain ⟨_, _, ⟨T40, L40, k40, n40⟩, -, X40, ⟨Lc40, hQ40, l40, y40, z40⟩, st40⟩ := Jvm.LawKit.callS X6 hx (y := (⟨"java/lang/StringUTF16", "coderFromArrayLen", "([BI)B"⟩ : MethodName)) hown (mvT hZ (hq hw 23 rfl)) (mvT hZ (hq hw 24 rfl)) (mvT hZ (hq hw 17 rfl)) (mvT hZ (hq hw 25 rfl)) (by decide) (backOf (W := 1) (rmCF_3_6 l Z a0 hw [] b6 kb6 [(.int (nar .byte ((c0 >>> ((0 : Int32) &&& 31)).toInt8.toInt32))), (.int (nar .byte ((c0 >>> ((8 : Int32) &&& 31)).toInt8.toInt32))), (.int (nar .byte ((c1 >>> ((0 : Int32) &&& 31)).toInt8.toInt32))), (.int (nar .byte ((c1 >>> ((8 : Int32) &&& 31)).toInt8.toInt32))), (.int (nar .byte ((c2 >>> ((0 : Int32) &&& 31)).toInt8.toInt32))), (.int (nar .byte ((c2 >>> ((8 : Int32) &&& 31)).toInt8.toInt32)))] T6.heap n0 z38 V6) hZ (hq hw 25 rfl) (hq hw 17 rfl) (by decide) (by decide)) (g := (mkF m 45 #[rv r0, rv r1, iv 0, iv 3, .val .null, rv b6] [(.int (3 : Int32)), (.ref b6), (.ref r0)])) rfl (by rw [hml]; rfl) (argsL := [(.ref b6), (.int (3 : Int32))]) (rest := [(.ref r0)]) (lenOf pd_12 rfl) rfl (by show 2 * 0 + _ ≤ _; exact Nat.le_of_eq rfl) (hb hby d2_45) (fun _ _ => ⟨rfl, rfl, (by decide : 2 + 0 ≤ _), (by decide : 9 + 0 ≤ _)⟩)
  dsimp only [Pt.U, Pt.locs, Pt.cells, Pt.slots] at X40 l40 y40 z40 st40 hQ40
  subst l40 y40 z40
  obtain ⟨rfl, N40q, eh40⟩ := hQ40
  have N40 := Fr.app N6 N40q
  obtain ⟨T41, h41, X41, e41, W41, st41⟩ := putFN X40 hx hZ hown (hq hw 26 rfl) Via.refl eh40 fa35 fa33 (Or.inr ⟨(hq hw 27 rfl), rfl, hnm⟩) (hq hw 2 rfl) (ty := .byte) (v' := (.int (1 : Int32))) (by decide) rfl (fits_nar_byte (1 : Int32)) (g := (mkF m 48 #[rv r0, rv r1, iv 0, iv 3, .val .null, rv b6] [(.int (1 : Int32)), (.ref r0)])) rfl rfl (hb hby d2_48)
  have fa42 := fa33.wr W41
  have fa43 := fa34.other W41 (Or.inr (slot_ne (Or.inr (hq hw 29 rfl)) (Or.inr (hq hw 27 rfl)) (by decide) (t := (.array .byte)) (t' := .byte) (by decide) (by decide)))
  have fa44 : Fld Z h41 r0 "java/lang/String" "coder" "B" (.int (1 : Int32)) := fa35.same W41
  have fa45 := fa36.other W41 (Ne.symm hne)
  have fa46 := fa37.wr W41 g_r0
  have fa47 := V6.other W41 (Ne.symm ne_r0_b6)
  have z48 : n0 ≤ h41.size := Nat.le_trans z38 (Nat.le_of_eq W41.size.symm)
  have kp49 : Keep h0 h41 [r0] := kp39.wr W41 (Or.inl (List.mem_of_getElem? (i := 0) rfl))
  have N41 := Fr.snoc X41 N40 g_r0
  obtain ⟨T50, h50, X50, e50, W50, st50⟩ := putF X41 hx hZ hown (host := "") (Or.inl (hq hw 28 rfl)) Via.refl e41 fa43 fa42 (Or.inr ⟨(hq hw 29 rfl), rfl, hnm⟩) (hq hw 2 rfl) (ty := (.array .byte)) (by decide) rfl rfl (g := (mkF m 54 #[rv r0, rv r1, iv 0, iv 3, .val .null, rv b6] [(.ref b6), (.ref r0)])) rfl rfl (hb hby d2_54)
  have fa51 := fa42.wr W50
  have fa52 : Fld Z h50 r0 "java/lang/String" "value" "[B" (.ref b6) := fa43.same W50
  have fa53 := fa44.other W50 (Or.inr (slot_ne (Or.inr (hq hw 27 rfl)) (Or.inr (hq hw 29 rfl)) (by decide) (t := .byte) (t' := (.array .byte)) (by decide) (by decide)))
  have fa54 := fa45.other W50 (Ne.symm hne)
  have fa55 := fa46.wr W50 g_r0
  have fa56 := fa47.other W50 (Ne.symm ne_r0_b6)
  have z57 : n0 ≤ h50.size := Nat.le_trans z48 (Nat.le_of_eq W50.size.symm)
  have kp58 : Keep h0 h50 [r0] := kp49.wr W50 (Or.inl (List.mem_of_getElem? (i := 0) rfl))
  have N50 := Fr.snoc X50 N41 g_r0
  obtain ⟨fs, hr, hrun, hended, hW, hsame⟩ := X50.leave (v := none) (fun _ => rfl)
  refine ⟨_, _, G4 _ ?_, hrun, hended, _, _, rfl, ?_, ⟨_, rfl⟩, hW, hsame.mono (by decide) (by decide)⟩
  ·skip
   refine XS.ifNo X3.here hx rfl (hb hby d2_30) rfl ((if0 _ _).trans (feq hc30_5).1) ?_
   refine XS.aloadN X3.here hx rfl (hb hby d2_33) rfl rfl ?_
   refine XS.iloadN X3.here hx rfl (hb hby d2_34) rfl ?_
   refine XS.iloadN X3.here hx rfl (hb hby d2_35) rfl ?_
   refine st6 _ ?_
   refine XS.astore X6.here hx rfl (hb hby d2_39) rfl rfl (l' := #[rv r0, rv r1, iv 0, iv 3, .val .null, rv b6]) rfl ?_
   refine XS.aloadN X6.here hx rfl (hb hby d2_41) rfl rfl ?_
   refine XS.aload X6.here hx rfl (hb hby d2_42) rfl rfl ?_
   refine XS.iloadN X6.here hx rfl (hb hby d2_44) rfl ?_
   refine st40 _ ?_
   refine st41 _ ?_
   refine XS.aloadN X41.here hx rfl (hb hby d2_51) rfl rfl ?_
   refine XS.aload X41.here hx rfl (hb hby d2_52) rfl rfl ?_
   refine st50 _ ?_
   exact X50.returnOut hx Bd.returns (hb hby d2_57) hr
  ·show QSE_3 Z r0 r1 c0 c1 c2 ks cst fv h0 n0 _ T50.heap _
   rw [e50]
   exact Or.inr ⟨rfl, N50, kp58, fa51, hq6, fa53, b6, kb6, fa52, szk6, g_b6, fa56⟩
def QSF_3 (Z : State) (r0 : Addr) (r1 : Addr) (c0 c1 c2 : Int32) (ks : ClassId) (cst : Int32) (fv : Value) (h0 : Heap) (n0 : Nat) (v : Option Value) (h : Heap) (L : List Loc) : Prop := (v = none ∧ Fr n0 L ∧ Keep h0 h [r0] ∧ Exa Z h r0 "java/lang/String" ∧ (¬ ((255 : Int32) < c0) ∧ ¬ ((255 : Int32) < c1) ∧ ¬ ((255 : Int32) < c2)) ∧ Fld Z h r0 "java/lang/String" "coder" "B" (.int (0 : Int32)) ∧ ∃ (t : Addr) (k : ClassId), Fld Z h r0 "java/lang/String" "value" "[B" (.ref t) ∧ h0.size ≤ t ∧ n0 ≤ t ∧ Arv Z h t k .byte (3 : Int32) [(.int (nar .byte (c0.toInt8.toInt32))), (.int (nar .byte (c1.toInt8.toInt32))), (.int (nar .byte (c2.toInt8.toInt32)))] (.int (0 : Int32))) ∨ (v = none ∧ Fr n0 L ∧ Keep h0 h [r0] ∧ Exa Z h r0 "java/lang/String" ∧ ((255 : Int32) < c0 ∨ (255 : Int32) < c1 ∨ (255 : Int32) < c2) ∧ Fld Z h r0 "java/lang/String" "coder" "B" (.int (1 : Int32)) ∧ ∃ (t : Addr) (k : ClassId), Fld Z h r0 "java/lang/String" "value" "[B" (.ref t) ∧ h0.size ≤ t ∧ n0 ≤ t ∧ Arv Z h t k .byte (6 : Int32) [(.int (nar .byte ((c0 >>> ((0 : Int32) &&& 31)).toInt8.toInt32))), (.int (nar .byte ((c0 >>> ((8 : Int32) &&& 31)).toInt8.toInt32))), (.int (nar .byte ((c1 >>> ((0 : Int32) &&& 31)).toInt8.toInt32))), (.int (nar .byte ((c1 >>> ((8 : Int32) &&& 31)).toInt8.toInt32))), (.int (nar .byte ((c2 >>> ((0 : Int32) &&& 31)).toInt8.toInt32))), (.int (nar .byte ((c2 >>> ((8 : Int32) &&& 31)).toInt8.toInt32)))] (.int (0 : Int32)))
theorem ef_rmSF_3 (m : MethodId) (x0 : Addr) (x1 : Addr) : entryFrame m #[(.ref x0), (.ref x1)] 2 = mkF m 0 #[.val (.ref x0), .val (.ref x1)] [] := by first | (simp [entryFrame, mkF, argsToLocals, Value.category]; done) | rfl
set_option maxRecDepth 65536 in
set_option maxHeartbeats 40000000 in
theorem rmSF_3 (l : Launch) (Z : State) (a0 : Array Value) (hw : ∀ d ∈ tables_1, d.before a0 Z = true) (ws : List Jvm.Cond) (r0 : Addr) (r1 : Addr) (c0 c1 c2 : Int32) (ks : ClassId) (cst : Int32) (fv : Value) (h0 : Heap) (n0 : Nat) (Z0 : n0 ≤ h0.size) (E0 : Exa Z h0 r0 "java/lang/String") (Fv : Fld Z h0 r0 "java/lang/String" "value" "[B" .null) (Fc : Fld Z h0 r0 "java/lang/String" "coder" "B" (.int (0 : Int32))) (Vs : Arv Z h0 r1 ks .char (3 : Int32) [(.int c0), (.int c1), (.int c2)] (.int (0 : Int32))) (O0 : Old Z n0 h0) (g_r0 : n0 ≤ r0) (hne : r0 ≠ r1) (hb0 : 0 ≤ c0.toInt ∧ c0.toInt ≤ 65535) (hb1 : 0 ≤ c1.toInt ∧ c1.toInt ≤ 65535) (hb2 : 0 ≤ c2.toInt ∧ c2.toInt ≤ 65535) (SS : Sts Z cst fv) :
  MetFree l (⟨"java/lang/String", "<init>", "([C)V"⟩ : MethodName) (head1 (Jvm.Cond.code (⟨"java/lang/String", "<init>", "([C)V"⟩ : MethodName) jdk_42_method_3_code 2 none :: ws) ({ frames := 5, cells := 2, slots := 9, locals := 74 } : Room)) (fun a U => a = #[(.ref r0), (.ref r1)] ∧ Z.Warmed39 U.vm ∧ U.heap = h0) (fun _ _ _ _ _ => True) (fun _ U o U' => ∃ v L, o = .returned v ∧ QSF_3 Z r0 r1 c0 c1 c2 ks cst fv h0 n0 v U'.heap L ∧ FrameEnd U o U' L ({ frames := 5, cells := 2, slots := 9, locals := 74 } : Room).cells ({ frames := 5, cells := 2, slots := 9, locals := 74 } : Room).slots) := by
 refine MetFree.of_bodySF (plainFor_of_name pnc_java_lang_String) hisR ?_
 intro p e s m args below meth c s₁ Bd hml0 hP hK
 obtain ⟨rfl, hZ, hh⟩ := hP
 have hx := Bd.exec
 have hby := Bd.bytes
 have hml : c.maxLocals = 2 := hml0
 have hown : s.vm.findClass "java/lang/String" = some m.cls := findClass_of_methodNamed Bd.named
 have hnm := (name_of_methodNamed Bd.named Bd.method).1
 have X0 : Stand p l e ({ frames := 5, cells := 2, slots := 9, locals := 74 } : Room) s m #[(.ref r0), (.ref r1)] below meth c s₁ [] 0 0 := Stand.of_body Bd
 have e0 : s₁.heap = h0 := by rw [← hh, Bd.state]; rfl
 have N0 := Fr.nil n0
 have kp0 : Keep h0 h0 [r0] := Keep.refl _ _
 have G0 : ∀ t, Steps p.tables e below (s₁.setTop (mkF m 0 #[rv r0, rv r1] [])) t → Steps p.tables e below (s₁.setTop (entryFrame m #[(.ref r0), (.ref r1)] 2)) t := fun t k => castTop (ef_rmSF_3 m r0 r1) k
 obtain ⟨cl1, Ar1, q1, S1, M1, H1, G1⟩ := id Vs
 obtain ⟨_, _, ⟨T2, L2, k2, n2⟩, -, X2, ⟨Lc2, hQ2, l2, y2, z2⟩, st2⟩ := X0.specialBack hx (y := (⟨"java/lang/String", "<init>", "([CIILjava/lang/Void;)V"⟩ : MethodName)) rfl hown (mvT hZ (hq hw 7 rfl)) (mvT hZ (hq hw 8 rfl)) (mvT hZ (hq hw 10 rfl)) (by decide) (backOf (W := 0) (rmSE_3 l Z a0 hw [] r0 r1 c0 c1 c2 ks cst fv h0 n0 Z0 E0 Fv Fc Vs O0 g_r0 hne hb0 hb1 hb2 SS) hZ (hq hw 10 rfl) (hq hw 3 rfl) (by decide) (by decide)) (g := (mkF m 6 #[rv r0, rv r1] [.null, (.int (3 : Int32)), (.int (0 : Int32)), (.ref r1), (.ref r0)])) rfl (by rw [hml]; rfl) (Steps.refl _) (a := r0) (argsL := [(.ref r1), (.int (0 : Int32)), (.int (3 : Int32)), .null]) (rest := []) (lenOf pd_13 rfl) rfl (by show 2 * 0 + _ ≤ _; exact Nat.le_of_eq rfl) (hb hby d1_6) (fun _ _ => ⟨rfl, e0, (by decide : 0 + 2 ≤ _), (by decide : 0 + 9 ≤ _)⟩)
 dsimp only [Pt.U, Pt.locs, Pt.cells, Pt.slots] at X2 l2 y2 z2 st2 hQ2
 subst l2 y2 z2
 rcases hQ2 with ⟨rfl, N2q, K2, A2, hq2, Fc2, ta2, kb2, Fv2, sz2, g_ta2, V2⟩ | ⟨rfl, N2q, K2, A2, hq2, Fc2, ta2, kb2, Fv2, sz2, g_ta2, V2⟩
 ·skip
  have N2 := Fr.app N0 N2q
  have szk2 : h0.size ≤ ta2 := Nat.le_trans kp0.1 sz2
  have ne_r0_ta2 : r0 ≠ ta2 := Nat.ne_of_lt (Nat.lt_of_lt_of_le E0.lt sz2)
  have ne_r1_ta2 : r1 ≠ ta2 := Nat.ne_of_lt (Nat.lt_of_lt_of_le Vs.lt sz2)
  have fa3 := E0.keep K2
  have fa4 := Vs.keep K2 (ninS (Ne.symm hne) nin0)
  have fa5 := O0.keep K2 (allS g_r0 all0)
  have z6 : n0 ≤ T2.heap.size := Nat.le_trans Z0 K2.1
  have kp7 : Keep h0 T2.heap [r0] := kp0.trans K2 (allS (Or.inl (List.mem_of_getElem? (i := 0) rfl)) all0)
  obtain ⟨fs, hr, hrun, hended, hW, hsame⟩ := X2.leave (v := none) (fun _ => rfl)
  refine ⟨_, _, G0 _ ?_, hrun, hended, _, _, rfl, ?_, ⟨_, rfl⟩, hW, hsame.mono (by decide) (by decide)⟩
  ·skip
   refine XS.aloadN X0.here hx rfl (hb hby d1_0) rfl rfl ?_
   refine XS.aloadN X0.here hx rfl (hb hby d1_1) rfl rfl ?_
   refine XS.iconst X0.here hx rfl (hb hby d1_2) ?_
   refine XS.aloadN X0.here hx rfl (hb hby d1_3) rfl rfl ?_
   refine X0.arraylength hx (by rw [e0]; exact Ar1.1) (State.isArrayOf_alike hZ.alike Ar1.2.1) (g := (mkF m 4 #[rv r0, rv r1] [(.ref r1), (.int (0 : Int32)), (.ref r1), (.ref r0)])) rfl rfl (hb hby d1_4) _ ?_
   rw [len_of S1 M1]
   refine XS.aconstNull X0.here hx rfl (hb hby d1_5) ?_
   refine st2.trans ?_
   exact X2.returnOut hx Bd.returns (hb hby d1_9) hr
  ·show QSF_3 Z r0 r1 c0 c1 c2 ks cst fv h0 n0 _ T2.heap _
   exact Or.inl ⟨rfl, N2, kp7, A2, hq2, Fc2, ta2, kb2, Fv2, szk2, g_ta2, V2⟩
 ·skip
  have N2 := Fr.app N0 N2q
  have szk2 : h0.size ≤ ta2 := Nat.le_trans kp0.1 sz2
  have ne_r0_ta2 : r0 ≠ ta2 := Nat.ne_of_lt (Nat.lt_of_lt_of_le E0.lt sz2)
  have ne_r1_ta2 : r1 ≠ ta2 := Nat.ne_of_lt (Nat.lt_of_lt_of_le Vs.lt sz2)
  have fa8 := E0.keep K2
  have fa9 := Vs.keep K2 (ninS (Ne.symm hne) nin0)
  have fa10 := O0.keep K2 (allS g_r0 all0)
  have z11 : n0 ≤ T2.heap.size := Nat.le_trans Z0 K2.1
  have kp12 : Keep h0 T2.heap [r0] := kp0.trans K2 (allS (Or.inl (List.mem_of_getElem? (i := 0) rfl)) all0)
  obtain ⟨fs, hr, hrun, hended, hW, hsame⟩ := X2.leave (v := none) (fun _ => rfl)
  refine ⟨_, _, G0 _ ?_, hrun, hended, _, _, rfl, ?_, ⟨_, rfl⟩, hW, hsame.mono (by decide) (by decide)⟩
  ·skip
   refine XS.aloadN X0.here hx rfl (hb hby d1_0) rfl rfl ?_
   refine XS.aloadN X0.here hx rfl (hb hby d1_1) rfl rfl ?_
   refine XS.iconst X0.here hx rfl (hb hby d1_2) ?_
   refine XS.aloadN X0.here hx rfl (hb hby d1_3) rfl rfl ?_
   refine X0.arraylength hx (by rw [e0]; exact Ar1.1) (State.isArrayOf_alike hZ.alike Ar1.2.1) (g := (mkF m 4 #[rv r0, rv r1] [(.ref r1), (.int (0 : Int32)), (.ref r1), (.ref r0)])) rfl rfl (hb hby d1_4) _ ?_
   rw [len_of S1 M1]
   refine XS.aconstNull X0.here hx rfl (hb hby d1_5) ?_
   refine st2.trans ?_
   exact X2.returnOut hx Bd.returns (hb hby d1_9) hr
  ·show QSF_3 Z r0 r1 c0 c1 c2 ks cst fv h0 n0 _ T2.heap _
   exact Or.inr ⟨rfl, N2, kp12, A2, hq2, Fc2, ta2, kb2, Fv2, szk2, g_ta2, V2⟩
theorem d2_8 : decode jdk_42_method_149_code 8 = .ok (.aload_n 0, 1) := by decide +kernel
theorem d2_9 : decode jdk_42_method_149_code 9 = .ok (.ldc 7, 2) := by decide +kernel
theorem own_satoms : ∀ d ∈ Bundle.stringAtoms, d ∈ tables_1 := by decide +kernel
theorem d2_11 : decode jdk_42_method_149_code 11 = .ok (.getfield 9, 3) := by decide +kernel
theorem d2_14 : decode jdk_42_method_149_code 14 = .ok (.putfield 9, 3) := by decide +kernel
theorem d2_17 : decode jdk_42_method_149_code 17 = .ok (.aload_n 0, 1) := by decide +kernel
theorem d2_18 : decode jdk_42_method_149_code 18 = .ok (.ldc 7, 2) := by decide +kernel
theorem d2_20 : decode jdk_42_method_149_code 20 = .ok (.getfield 15, 3) := by decide +kernel
theorem d2_23 : decode jdk_42_method_149_code 23 = .ok (.putfield 15, 3) := by decide +kernel
theorem d2_26 : decode jdk_42_method_149_code 26 = .ok (.return_, 1) := by decide +kernel
def QSE_0 (Z : State) (r0 : Addr) (r1 : Addr) (h0 : Heap) (n0 : Nat) (v : Option Value) (h : Heap) (L : List Loc) : Prop := v = none ∧ Fr n0 L ∧ Keep h0 h [r0] ∧ Exa Z h r0 "java/lang/String" ∧ Fld Z h r0 "java/lang/String" "coder" "B" (.int (0 : Int32)) ∧ ∃ (t : Addr) (k : ClassId), Fld Z h r0 "java/lang/String" "value" "[B" (.ref t) ∧ Arv Z h t k .byte (0 : Int32) [] (.int (0 : Int32))
theorem ef_rmSE_0 (m : MethodId) (x0 : Addr) (x1 : Addr) (x2 : Int32) (x3 : Int32) : entryFrame m #[(.ref x0), (.ref x1), (.int x2), (.int x3), .null] 6 = mkF m 0 #[.val (.ref x0), .val (.ref x1), .val (.int x2), .val (.int x3), .val .null, .unset] [] := by first | (simp [entryFrame, mkF, argsToLocals, Value.category]; done) | rfl
set_option maxRecDepth 65536 in
set_option maxHeartbeats 40000000 in
theorem rmSE_0 (l : Launch) (Z : State) (a0 : Array Value) (hw : ∀ d ∈ tables_1, d.before a0 Z = true) (ws : List Jvm.Cond) (r0 : Addr) (r1 : Addr) (h0 : Heap) (n0 : Nat) (Z0 : n0 ≤ h0.size) (E0 : Exa Z h0 r0 "java/lang/String") (Fv : Fld Z h0 r0 "java/lang/String" "value" "[B" .null) (Fc : Fld Z h0 r0 "java/lang/String" "coder" "B" (.int (0 : Int32))) (g_r0 : n0 ≤ r0) :
  MetFree l (⟨"java/lang/String", "<init>", "([CIILjava/lang/Void;)V"⟩ : MethodName) (head1 (Jvm.Cond.code (⟨"java/lang/String", "<init>", "([CIILjava/lang/Void;)V"⟩ : MethodName) jdk_42_method_149_code 6 none :: ws) ({ frames := 1, cells := 4, slots := 8, locals := 12 } : Room)) (fun a U => a = #[(.ref r0), (.ref r1), (.int (0 : Int32)), (.int (0 : Int32)), .null] ∧ Z.Warmed39 U.vm ∧ U.heap = h0 ∧ CHv Z own_EL U.vm h0) (fun _ _ _ _ _ => True) (fun _ U o U' => ∃ v L, o = .returned v ∧ QSE_0 Z r0 r1 h0 n0 v U'.heap L ∧ CHr Z own_EL U.vm U.heap U'.vm U'.heap ∧ ReturnedEndW U o U' L ({ frames := 1, cells := 4, slots := 8, locals := 12 } : Room).cells ({ frames := 1, cells := 4, slots := 8, locals := 12 } : Room).slots) := by
 refine MetFree.of_bodySF (plainFor_of_name pnc_java_lang_String) hisR ?_
 intro p e s m args below meth c s₁ Bd hml0 hP hK
 obtain ⟨rfl, hZ, hh, CH0⟩ := hP
 have hx := Bd.exec
 have hby := Bd.bytes
 have hml : c.maxLocals = 6 := hml0
 have hown : s.vm.findClass "java/lang/String" = some m.cls := findClass_of_methodNamed Bd.named
 have hnm := (name_of_methodNamed Bd.named Bd.method).1
 have X0 : Stand p l e ({ frames := 1, cells := 4, slots := 8, locals := 12 } : Room) s m #[(.ref r0), (.ref r1), (.int (0 : Int32)), (.int (0 : Int32)), .null] below meth c s₁ [] 0 0 := Stand.of_body Bd
 have e0 : s₁.heap = h0 := by rw [← hh, Bd.state]; rfl
 have N0 := Fr.nil n0
 have kp0 : Keep h0 h0 [r0] := Keep.refl _ _
 have G0 : ∀ t, Steps p.tables e below (s₁.setTop (mkF m 0 #[rv r0, rv r1, iv 0, iv 0, .val .null, .unset] [])) t → Steps p.tables e below (s₁.setTop (entryFrame m #[(.ref r0), (.ref r1), (.int (0 : Int32)), (.int (0 : Int32)), .null] 6)) t := fun t k => castTop (ef_rmSE_0 m r0 r1 (0 : Int32) (0 : Int32)) k
 have X0 : Stand p l e ({ frames := 1, cells := 4, slots := 8, locals := 12 } : Room) (s.setVm s.vm) m #[(.ref r0), (.ref r1), (.int (0 : Int32)), (.int (0 : Int32)), .null] below meth c s₁ [] 0 0 := X0
 have hZ : Z.Warmed39 (s.setVm s.vm).vm := hZ
 have hown : (s.setVm s.vm).vm.findClass "java/lang/String" = some m.cls := hown
 have hEL : EW Z a0 own_EL := own_ew hw
 have CR0 : CHr Z own_EL s.vm h0 s.vm h0 := CHr.refl CH0
 have sf0_r0 : Safe Z own_EL s.vm h0 r0 := own_safe_null hZ.alike E0 (hq hw 2 rfl) Fv
 have hS : s.Since s.vm 0 := (State.WarmedH.refl s).since 0
 have hk : 0 ≤ h0.size := Nat.zero_le _
 have G1 : ∀ t, Steps p.tables e below (s₁.setTop (mkF m 1 #[rv r0, rv r1, iv 0, iv 0, .val .null, .unset] [(.ref r0)])) t → Steps p.tables e below (s₁.setTop (entryFrame m #[(.ref r0), (.ref r1), (.int (0 : Int32)), (.int (0 : Int32)), .null] 6)) t := by
  intro t kt
  refine G0 _ ?_
  refine XS.aloadN X0.here hx rfl (hb hby d2_0) rfl rfl ?_
  exact kt
 obtain ⟨T2, X2, e2, st2⟩ := initO X0 hx hZ hown (hq hw 11 rfl) (hq hw 12 rfl) (hq hw 13 rfl) e0 (g := (mkF m 1 #[rv r0, rv r1, iv 0, iv 0, .val .null, .unset] [(.ref r0)])) rfl (by rw [hml]; rfl) rfl (hb hby d2_1) (by decide) (W := 0) (by show 2 * 0 + _ ≤ _; exact Nat.le_of_eq rfl) (by decide)
 have G3 : ∀ t, Steps p.tables e below (T2.setTop (mkF m 5 #[rv r0, rv r1, iv 0, iv 0, .val .null, .unset] [(.int (0 : Int32))])) t → Steps p.tables e below (s₁.setTop (entryFrame m #[(.ref r0), (.ref r1), (.int (0 : Int32)), (.int (0 : Int32)), .null] 6)) t := by
  intro t kt
  refine G1 _ ?_
  refine st2 _ ?_
  refine XS.iloadN X2.here hx rfl (hb hby d2_4) rfl ?_
  exact kt
 have G4 : ∀ t, Steps p.tables e below (T2.setTop (mkF m 9 #[rv r0, rv r1, iv 0, iv 0, .val .null, .unset] [(.ref r0)])) t → Steps p.tables e below (s₁.setTop (entryFrame m #[(.ref r0), (.ref r1), (.int (0 : Int32)), (.int (0 : Int32)), .null] 6)) t := by
  intro t kt
  refine G3 _ ?_
  refine XS.ifNo X2.here hx rfl (hb hby d2_5) rfl ((if0 _ _).trans (teq (by decide)).2) ?_
  refine XS.aloadN X2.here hx rfl (hb hby d2_8) rfl rfl ?_
  exact kt
 obtain ⟨a5, T5, h5, k5, bb5, kb5, X5, e5, E5, hS, hk, hZ, hown, A5, Fc5, Fv5, V5, -, -, C5, -, hne5, st5⟩ := ldcCH (s := s) X2 hx hZ hown (hq hw 70 rfl) (fun d hd => hw d (own_satoms d hd)) e2 hS hk hEL (List.mem_of_getElem? (i := 0) rfl) CH0 (z := (0 : Int32)) ⟨by decide, rfl⟩ (by decide) rfl (g := (mkF m 9 #[rv r0, rv r1, iv 0, iv 0, .val .null, .unset] [(.ref r0)])) rfl (hb hby d2_9) (n := 0) (by decide) (by decide) (by decide) (by decide)
 have fa6 := E0.ext E5
 have fa7 := Fv.ext E5
 have fa8 := Fc.ext E5
 have z9 : n0 ≤ h5.size := Nat.le_trans Z0 E5.1
 have kp10 : Keep h0 h5 [r0] := kp0.ext E5
 have cr11 := CR0.trans C5
 have ch11 := C5.1
 have sf11_r0 := C5.safe E0.lt sf0_r0
 have ne_r0_a5 := (hne5 r0 sf11_r0).1
 have ne_r0_bb5 := (hne5 r0 sf11_r0).2
 have fa12 : Arv Z h5 bb5 kb5 .byte (0 : Int32) [] (.int (0 : Int32)) := V5
 obtain ⟨T13, X13, e13, st13⟩ := getF X5 hx hZ hown (host := "") (Or.inl (hq hw 28 rfl)) Via.refl e5 Fv5 (g := (mkF m 11 #[rv r0, rv r1, iv 0, iv 0, .val .null, .unset] [(.ref a5), (.ref r0)])) rfl rfl (hb hby d2_11)
 obtain ⟨T14, h14, X14, e14, W14, st14⟩ := putF X13 hx hZ hown (host := "") (Or.inl (hq hw 28 rfl)) Via.refl e13 fa7 fa6 (Or.inr ⟨(hq hw 29 rfl), rfl, hnm⟩) (hq hw 2 rfl) (ty := (.array .byte)) (by decide) rfl rfl (g := (mkF m 14 #[rv r0, rv r1, iv 0, iv 0, .val .null, .unset] [(.ref bb5), (.ref r0)])) rfl rfl (hb hby d2_14)
 have ch15 : CHv Z own_EL T5.vm h14 := ch11.wr W14 sf11_r0
 have cr15 : CHr Z own_EL s.vm h0 T5.vm h14 := cr11.trans (CHr.wr W14 sf11_r0 ch11)
 have sf15_r0 : Safe Z own_EL T5.vm h14 r0 := Safe.wr W14 sf11_r0 ch11 sf11_r0
 have fa16 := fa6.wr W14
 have fa17 : Fld Z h14 r0 "java/lang/String" "value" "[B" (.ref bb5) := fa7.same W14
 have fa18 := fa8.other W14 (Or.inr (slot_ne (Or.inr (hq hw 27 rfl)) (Or.inr (hq hw 29 rfl)) (by decide) (t := .byte) (t' := (.array .byte)) (by decide) (by decide)))
 have fa19 := A5.wr W14
 have fa20 := Fc5.other W14 (Or.inl (Ne.symm ne_r0_a5))
 have fa21 := Fv5.other W14 (Or.inl (Ne.symm ne_r0_a5))
 have fa22 := fa12.other W14 (Ne.symm ne_r0_bb5)
 have z23 : n0 ≤ h14.size := Nat.le_trans z9 (Nat.le_of_eq W14.size.symm)
 have hk := Nat.le_trans hk (Nat.le_of_eq W14.size.symm)
 have kp24 : Keep h0 h14 [r0] := kp10.wr W14 (Or.inl (List.mem_of_getElem? (i := 0) rfl))
 have N14 := Fr.snoc X14 N0 g_r0
 have G25 : ∀ t, Steps p.tables e below (T14.setTop (mkF m 18 #[rv r0, rv r1, iv 0, iv 0, .val .null, .unset] [(.ref r0)])) t → Steps p.tables e below (s₁.setTop (entryFrame m #[(.ref r0), (.ref r1), (.int (0 : Int32)), (.int (0 : Int32)), .null] 6)) t := by
  intro t kt
  refine G4 _ ?_
  refine st5 _ ?_
  refine st13 _ ?_
  refine st14 _ ?_
  refine XS.aloadN X14.here hx rfl (hb hby d2_17) rfl rfl ?_
  exact kt
 obtain ⟨a26, T26, h26, k26, bb26, kb26, X26, e26, E26, hS, hk, hZ, hown, A26, Fc26, Fv26, V26, -, -, C26, -, hne26, st26⟩ := ldcCH (s := s) X14 hx hZ hown (hq hw 70 rfl) (fun d hd => hw d (own_satoms d hd)) e14 hS hk hEL (List.mem_of_getElem? (i := 0) rfl) ch15 (z := (0 : Int32)) ⟨by decide, rfl⟩ (by decide) rfl (g := (mkF m 18 #[rv r0, rv r1, iv 0, iv 0, .val .null, .unset] [(.ref r0)])) rfl (hb hby d2_18) (n := 0) (by decide) (by decide) (by decide) (by decide)
 have fa27 := fa16.ext E26
 have fa28 := fa17.ext E26
 have fa29 := fa18.ext E26
 have fa30 := fa19.ext E26
 have fa31 := fa20.ext E26
 have fa32 := fa21.ext E26
 have fa33 := fa22.ext E26
 have z34 : n0 ≤ h26.size := Nat.le_trans z23 E26.1
 have kp35 : Keep h0 h26 [r0] := kp24.ext E26
 have cr36 := cr15.trans C26
 have ch36 := C26.1
 have sf36_r0 := C26.safe fa16.lt sf15_r0
 have ne_r0_a26 := (hne26 r0 sf36_r0).1
 have ne_r0_bb26 := (hne26 r0 sf36_r0).2
 have fa37 : Arv Z h26 bb26 kb26 .byte (0 : Int32) [] (.int (0 : Int32)) := V26
 obtain ⟨T38, X38, e38, st38⟩ := getF X26 hx hZ hown (host := "") (Or.inl (hq hw 26 rfl)) Via.refl e26 Fc26 (g := (mkF m 20 #[rv r0, rv r1, iv 0, iv 0, .val .null, .unset] [(.ref a26), (.ref r0)])) rfl rfl (hb hby d2_20)
 obtain ⟨T39, h39, X39, e39, W39, st39⟩ := putFN X38 hx hZ hown (hq hw 26 rfl) Via.refl e38 fa29 fa27 (Or.inr ⟨(hq hw 27 rfl), rfl, hnm⟩) (hq hw 2 rfl) (ty := .byte) (v' := (.int (0 : Int32))) (by decide) rfl (fits_nar_byte (0 : Int32)) (g := (mkF m 23 #[rv r0, rv r1, iv 0, iv 0, .val .null, .unset] [(.int (0 : Int32)), (.ref r0)])) rfl rfl (hb hby d2_23)
 have ch40 : CHv Z own_EL T26.vm h39 := ch36.wr W39 sf36_r0
 have cr40 : CHr Z own_EL s.vm h0 T26.vm h39 := cr36.trans (CHr.wr W39 sf36_r0 ch36)
 have sf40_r0 : Safe Z own_EL T26.vm h39 r0 := Safe.wr W39 sf36_r0 ch36 sf36_r0
 have fa41 := fa27.wr W39
 have fa42 := fa28.other W39 (Or.inr (slot_ne (Or.inr (hq hw 29 rfl)) (Or.inr (hq hw 27 rfl)) (by decide) (t := (.array .byte)) (t' := .byte) (by decide) (by decide)))
 have fa43 : Fld Z h39 r0 "java/lang/String" "coder" "B" (.int (0 : Int32)) := fa29.same W39
 have fa44 := fa30.wr W39
 have fa45 := fa31.other W39 (Or.inl (Ne.symm ne_r0_a5))
 have fa46 := fa32.other W39 (Or.inl (Ne.symm ne_r0_a5))
 have fa47 := fa33.other W39 (Ne.symm ne_r0_bb5)
 have fa48 := A26.wr W39
 have fa49 := Fc26.other W39 (Or.inl (Ne.symm ne_r0_a26))
 have fa50 := Fv26.other W39 (Or.inl (Ne.symm ne_r0_a26))
 have fa51 := fa37.other W39 (Ne.symm ne_r0_bb26)
 have z52 : n0 ≤ h39.size := Nat.le_trans z34 (Nat.le_of_eq W39.size.symm)
 have hk := Nat.le_trans hk (Nat.le_of_eq W39.size.symm)
 have kp53 : Keep h0 h39 [r0] := kp35.wr W39 (Or.inl (List.mem_of_getElem? (i := 0) rfl))
 have N39 := Fr.snoc X39 N14 g_r0
 obtain ⟨fs, hr, hrun, hended, hRW⟩ := X39.leaveW (s := s) hS (by rw [show T39.heap = h39 from e39]; exact hk) (v := none) (fun _ => rfl) (BodyLoose.notSynchronized Bd)
 refine ⟨_, _, G25 _ ?_, hrun, hended, _, _, rfl, ?_, (show CHr Z own_EL s.vm s.heap T39.vm T39.heap from by rw [hh, show T39.heap = h39 from e39]; exact cr40.trans (CHv.at X39 hZ hEL ch40)), hRW.1, hRW.2.1, hRW.2.2.1, hRW.2.2.2.mono (by decide) (by decide)⟩
 ·skip
  refine st26 _ ?_
  refine st38 _ ?_
  refine st39 _ ?_
  exact X39.returnOut hx Bd.returns (hb hby d2_26) hr
 ·show QSE_0 Z r0 r1 h0 n0 _ T39.heap _
  rw [e39]
  exact ⟨rfl, N39, kp53, fa41, fa43, bb5, kb5, fa42, fa47⟩
def QSF_0 (Z : State) (r0 : Addr) (r1 : Addr) (ks : ClassId) (h0 : Heap) (n0 : Nat) (v : Option Value) (h : Heap) (L : List Loc) : Prop := v = none ∧ Fr n0 L ∧ Keep h0 h [r0] ∧ Exa Z h r0 "java/lang/String" ∧ Fld Z h r0 "java/lang/String" "coder" "B" (.int (0 : Int32)) ∧ ∃ (t : Addr) (k : ClassId), Fld Z h r0 "java/lang/String" "value" "[B" (.ref t) ∧ Arv Z h t k .byte (0 : Int32) [] (.int (0 : Int32))
theorem ef_rmSF_0 (m : MethodId) (x0 : Addr) (x1 : Addr) : entryFrame m #[(.ref x0), (.ref x1)] 2 = mkF m 0 #[.val (.ref x0), .val (.ref x1)] [] := by first | (simp [entryFrame, mkF, argsToLocals, Value.category]; done) | rfl
set_option maxRecDepth 65536 in
set_option maxHeartbeats 40000000 in
theorem rmSF_0 (l : Launch) (Z : State) (a0 : Array Value) (hw : ∀ d ∈ tables_1, d.before a0 Z = true) (ws : List Jvm.Cond) (r0 : Addr) (r1 : Addr) (ks : ClassId) (h0 : Heap) (n0 : Nat) (Z0 : n0 ≤ h0.size) (E0 : Exa Z h0 r0 "java/lang/String") (Fv : Fld Z h0 r0 "java/lang/String" "value" "[B" .null) (Fc : Fld Z h0 r0 "java/lang/String" "coder" "B" (.int (0 : Int32))) (Vs : Arv Z h0 r1 ks .char (0 : Int32) [] (.int (0 : Int32))) (g_r0 : n0 ≤ r0) (hne : r0 ≠ r1) :
  MetFree l (⟨"java/lang/String", "<init>", "([C)V"⟩ : MethodName) (head1 (Jvm.Cond.code (⟨"java/lang/String", "<init>", "([C)V"⟩ : MethodName) jdk_42_method_3_code 2 none :: ws) ({ frames := 2, cells := 4, slots := 8, locals := 29 } : Room)) (fun a U => a = #[(.ref r0), (.ref r1)] ∧ Z.Warmed39 U.vm ∧ U.heap = h0 ∧ CHv Z own_EL U.vm h0) (fun _ _ _ _ _ => True) (fun _ U o U' => ∃ v L, o = .returned v ∧ QSF_0 Z r0 r1 ks h0 n0 v U'.heap L ∧ CHr Z own_EL U.vm U.heap U'.vm U'.heap ∧ ReturnedEndW U o U' L ({ frames := 2, cells := 4, slots := 8, locals := 29 } : Room).cells ({ frames := 2, cells := 4, slots := 8, locals := 29 } : Room).slots) := by
 refine MetFree.of_bodySF (plainFor_of_name pnc_java_lang_String) hisR ?_
 intro p e s m args below meth c s₁ Bd hml0 hP hK
 obtain ⟨rfl, hZ, hh, CH0⟩ := hP
 have hx := Bd.exec
 have hby := Bd.bytes
 have hml : c.maxLocals = 2 := hml0
 have hown : s.vm.findClass "java/lang/String" = some m.cls := findClass_of_methodNamed Bd.named
 have hnm := (name_of_methodNamed Bd.named Bd.method).1
 have X0 : Stand p l e ({ frames := 2, cells := 4, slots := 8, locals := 29 } : Room) s m #[(.ref r0), (.ref r1)] below meth c s₁ [] 0 0 := Stand.of_body Bd
 have e0 : s₁.heap = h0 := by rw [← hh, Bd.state]; rfl
 have N0 := Fr.nil n0
 have kp0 : Keep h0 h0 [r0] := Keep.refl _ _
 have G0 : ∀ t, Steps p.tables e below (s₁.setTop (mkF m 0 #[rv r0, rv r1] [])) t → Steps p.tables e below (s₁.setTop (entryFrame m #[(.ref r0), (.ref r1)] 2)) t := fun t k => castTop (ef_rmSF_0 m r0 r1) k
 have X0 : Stand p l e ({ frames := 2, cells := 4, slots := 8, locals := 29 } : Room) (s.setVm s.vm) m #[(.ref r0), (.ref r1)] below meth c s₁ [] 0 0 := X0
 have hZ : Z.Warmed39 (s.setVm s.vm).vm := hZ
 have hown : (s.setVm s.vm).vm.findClass "java/lang/String" = some m.cls := hown
 have hEL : EW Z a0 own_EL := own_ew hw
 have CR0 : CHr Z own_EL s.vm h0 s.vm h0 := CHr.refl CH0
 have sf0_r0 : Safe Z own_EL s.vm h0 r0 := own_safe_null hZ.alike E0 (hq hw 2 rfl) Fv
 have hS : s.Since s.vm 0 := (State.WarmedH.refl s).since 0
 have hk : 0 ≤ h0.size := Nat.zero_le _
 obtain ⟨cl1, Ar1, q1, S1, M1, H1, G1⟩ := id Vs
 have G2 : ∀ t, Steps p.tables e below (s₁.setTop (mkF m 6 #[rv r0, rv r1] [.null, (.int (0 : Int32)), (.int (0 : Int32)), (.ref r1), (.ref r0)])) t → Steps p.tables e below (s₁.setTop (entryFrame m #[(.ref r0), (.ref r1)] 2)) t := by
  intro t kt
  refine G0 _ ?_
  refine XS.aloadN X0.here hx rfl (hb hby d1_0) rfl rfl ?_
  refine XS.aloadN X0.here hx rfl (hb hby d1_1) rfl rfl ?_
  refine XS.iconst X0.here hx rfl (hb hby d1_2) ?_
  refine XS.aloadN X0.here hx rfl (hb hby d1_3) rfl rfl ?_
  refine X0.arraylength hx (by rw [e0]; exact Ar1.1) (State.isArrayOf_alike hZ.alike Ar1.2.1) (g := (mkF m 4 #[rv r0, rv r1] [(.ref r1), (.int (0 : Int32)), (.ref r1), (.ref r0)])) rfl rfl (hb hby d1_4) _ ?_
  rw [len_of S1 M1]
  refine XS.aconstNull X0.here hx rfl (hb hby d1_5) ?_
  exact kt
 obtain ⟨_, vm3, ⟨T3, L3, k3, n3⟩, -, X3, hS3, gr3, ⟨Lc3, hQ3, l3, y3, z3, C3⟩, st3⟩ := X0.specialBackS hx (y := (⟨"java/lang/String", "<init>", "([CIILjava/lang/Void;)V"⟩ : MethodName)) rfl hown (mvT hZ (hq hw 7 rfl)) (mvT hZ (hq hw 8 rfl)) (mvT hZ (hq hw 10 rfl)) (by decide) (backOfSH (s := s) (vm0 := s.vm) (W := 0) (rmSE_0 l Z a0 hw [] r0 r1 h0 n0 Z0 E0 Fv Fc  g_r0) hZ (hq hw 10 rfl) (hq hw 3 rfl) (by decide) (by decide) hEL CH0) (g := (mkF m 6 #[rv r0, rv r1] [.null, (.int (0 : Int32)), (.int (0 : Int32)), (.ref r1), (.ref r0)])) rfl (by rw [hml]; rfl) (Steps.refl _) (a := r0) (argsL := [(.ref r1), (.int (0 : Int32)), (.int (0 : Int32)), .null]) (rest := []) (lenOf pd_13 rfl) rfl (by show 2 * 0 + _ ≤ _; exact Nat.le_of_eq rfl) (hb hby d1_6) (fun _ _ => ⟨rfl, e0, (by decide : 0 + 4 ≤ _), (by decide : 0 + 8 ≤ _)⟩)
 dsimp only [Pt.U, Pt.locs, Pt.cells, Pt.slots] at X3 l3 y3 z3 st3 hQ3 hS3 gr3 C3
 subst l3 y3 z3
 have hS := hS.trans hS3 (Nat.le_trans hk (by rw [← show s₁.heap = h0 from e0]; exact gr3))
 have hZ : Z.Warmed39 (s.setVm T3.vm).vm := State.Warmed39.trans hZ hS3.1
 have hown : (s.setVm T3.vm).vm.findClass "java/lang/String" = some m.cls := by rw [show (s.setVm T3.vm).vm = T3.vm from rfl, hS3.1.alike.findClass]; exact hown
 have X3 : Stand p l e ({ frames := 2, cells := 4, slots := 8, locals := 29 } : Room) (s.setVm T3.vm) m #[(.ref r0), (.ref r1)] below meth c T3 _ _ _ := X3
 have hk : T3.heap.size ≤ T3.heap.size := Nat.le_refl _
 have cr4 := CR0.trans C3
 have ch4 := C3.1
 have sf4_r0 := C3.safe E0.lt sf0_r0
 obtain ⟨rfl, N3q, K3, A3, Fc3, ta3, kb3, Fv3, V3⟩ := hQ3
 have N3 := Fr.app N0 N3q
 have fa5 := E0.keep K3
 have fa6 := Vs.keep K3 (ninS (Ne.symm hne) nin0)
 have z7 : n0 ≤ T3.heap.size := Nat.le_trans Z0 K3.1
 have kp8 : Keep h0 T3.heap [r0] := kp0.trans K3 (allS (Or.inl (List.mem_of_getElem? (i := 0) rfl)) all0)
 obtain ⟨fs, hr, hrun, hended, hRW⟩ := X3.leaveW (s := s) hS (by rw [show T3.heap = T3.heap from rfl]; exact hk) (v := none) (fun _ => rfl) (BodyLoose.notSynchronized Bd)
 refine ⟨_, _, G2 _ ?_, hrun, hended, _, _, rfl, ?_, (show CHr Z own_EL s.vm s.heap T3.vm T3.heap from by rw [hh, show T3.heap = T3.heap from rfl]; exact cr4.trans (CHv.at X3 hZ hEL ch4)), hRW.1, hRW.2.1, hRW.2.2.1, hRW.2.2.2.mono (by decide) (by decide)⟩
 ·skip
  refine st3.trans ?_
  exact X3.returnOut hx Bd.returns (hb hby d1_9) hr
 ·show QSF_0 Z r0 r1 ks h0 n0 _ T3.heap _
  exact ⟨rfl, N3, kp8, A3, Fc3, ta3, kb3, Fv3, V3⟩
theorem d7_0 : decode method_2_code 0 = .ok (.iload_n 0, 1) := by decide +kernel
theorem d7_1 : decode method_2_code 1 = .ok (.bipush 9, 2) := by decide +kernel
theorem d7_3 : decode method_2_code 3 = .ok (.if_icmp .ne 5, 3) := by decide +kernel
theorem d7_6 : decode method_2_code 6 = .ok (.iconst 1, 1) := by decide +kernel
theorem d7_7 : decode method_2_code 7 = .ok (.ireturn, 1) := by decide +kernel
theorem d7_8 : decode method_2_code 8 = .ok (.iload_n 0, 1) := by decide +kernel
theorem d7_9 : decode method_2_code 9 = .ok (.bipush 32, 2) := by decide +kernel
theorem d7_11 : decode method_2_code 11 = .ok (.if_icmp .lt 11, 3) := by decide +kernel
theorem d7_22 : decode method_2_code 22 = .ok (.iload_n 0, 1) := by decide +kernel
theorem d7_23 : decode method_2_code 23 = .ok (.sipush 128, 3) := by decide +kernel
theorem d7_26 : decode method_2_code 26 = .ok (.if_icmp .lt 12, 3) := by decide +kernel
theorem d7_38 : decode method_2_code 38 = .ok (.iconst 0, 1) := by decide +kernel
theorem d7_39 : decode method_2_code 39 = .ok (.ireturn, 1) := by decide +kernel
theorem d7_14 : decode method_2_code 14 = .ok (.iload_n 0, 1) := by decide +kernel
theorem d7_15 : decode method_2_code 15 = .ok (.bipush 126, 2) := by decide +kernel
theorem d7_17 : decode method_2_code 17 = .ok (.if_icmp .gt 5, 3) := by decide +kernel
theorem d7_29 : decode method_2_code 29 = .ok (.iload_n 0, 1) := by decide +kernel
theorem d7_30 : decode method_2_code 30 = .ok (.sipush 255, 3) := by decide +kernel
theorem d7_33 : decode method_2_code 33 = .ok (.if_icmp .gt 5, 3) := by decide +kernel
theorem d7_36 : decode method_2_code 36 = .ok (.iconst 1, 1) := by decide +kernel
theorem d7_37 : decode method_2_code 37 = .ok (.ireturn, 1) := by decide +kernel
theorem d7_20 : decode method_2_code 20 = .ok (.iconst 1, 1) := by decide +kernel
theorem d7_21 : decode method_2_code 21 = .ok (.ireturn, 1) := by decide +kernel
def fal (p0 : Int32) : Int32 := if p0 = (9 : Int32) then ((1 : Int32)) else (if p0 < (32 : Int32) then ((0 : Int32)) else (if (126 : Int32) < p0 then (if p0 < (128 : Int32) then ((0 : Int32)) else (if (255 : Int32) < p0 then ((0 : Int32)) else ((1 : Int32)))) else ((1 : Int32))))
def Q7 (Z : State) (p0 : Int32) (h0 : Heap) (n0 : Nat) (v : Option Value) (h : Heap) (L : List Loc) : Prop := v = some (.int (fal p0)) ∧ Fr n0 L ∧ h = h0
theorem ef_rm7 (m : MethodId) (x0 : Int32) : entryFrame m #[(.int x0)] 1 = mkF m 0 #[.val (.int x0)] [] := by first | (simp [entryFrame, mkF, argsToLocals, Value.category]; done) | rfl
theorem pnc_com_example_wary_bearer_warybearer_http_Http1ReaderIsFieldValuePinLaw : plainName "com/example/wary_bearer/warybearer/http/Http1ReaderIsFieldValuePinLaw" = true := by first | (simp [plainName, overriddenIn]; done) | decide +kernel
set_option maxRecDepth 65536 in
set_option maxHeartbeats 40000000 in
theorem rm7 (l : Launch) (Z : State) (a0 : Array Value) (hw : ∀ d ∈ tables_1, d.before a0 Z = true) (ws : List Jvm.Cond) (p0 : Int32) (h0 : Heap) (n0 : Nat) (Z0 : n0 ≤ h0.size) :
  MetFree l (⟨"com/example/wary_bearer/warybearer/http/Http1ReaderIsFieldValuePinLaw", "allowed", "(C)Z"⟩ : MethodName) (head1 (Jvm.Cond.code (⟨"com/example/wary_bearer/warybearer/http/Http1ReaderIsFieldValuePinLaw", "allowed", "(C)Z"⟩ : MethodName) method_2_code 1 (some .boolean) :: ws) ({ frames := 0, cells := 0, slots := 0, locals := 0 } : Room)) (fun a U => a = #[(.int p0)] ∧ Z.Warmed39 U.vm ∧ U.heap = h0) (fun _ _ _ _ _ => True) (fun _ U o U' => ∃ v L, o = .returned v ∧ Q7 Z p0 h0 n0 v U'.heap L ∧ FrameEnd U o U' L ({ frames := 0, cells := 0, slots := 0, locals := 0 } : Room).cells ({ frames := 0, cells := 0, slots := 0, locals := 0 } : Room).slots) := by
 refine MetFree.of_bodySF (plainFor_of_name pnc_com_example_wary_bearer_warybearer_http_Http1ReaderIsFieldValuePinLaw) hisR ?_
 intro p e s m args below meth c s₁ Bd hml0 hP hK
 obtain ⟨rfl, hZ, hh⟩ := hP
 have hx := Bd.exec
 have hby := Bd.bytes
 have hml : c.maxLocals = 1 := hml0
 have hown : s.vm.findClass "com/example/wary_bearer/warybearer/http/Http1ReaderIsFieldValuePinLaw" = some m.cls := findClass_of_methodNamed Bd.named
 have hnm := (name_of_methodNamed Bd.named Bd.method).1
 have X0 : Stand p l e ({ frames := 0, cells := 0, slots := 0, locals := 0 } : Room) s m #[(.int p0)] below meth c s₁ [] 0 0 := Stand.of_body Bd
 have e0 : s₁.heap = h0 := by rw [← hh, Bd.state]; rfl
 have N0 := Fr.nil n0
 have kp0 : Keep h0 h0 [] := Keep.refl _ _
 have G0 : ∀ t, Steps p.tables e below (s₁.setTop (mkF m 0 #[iv p0] [])) t → Steps p.tables e below (s₁.setTop (entryFrame m #[(.int p0)] 1)) t := fun t k => castTop (ef_rm7 m p0) k
 have G1 : ∀ t, Steps p.tables e below (s₁.setTop (mkF m 3 #[iv p0] [(.int (9 : Int32)), (.int p0)])) t → Steps p.tables e below (s₁.setTop (entryFrame m #[(.int p0)] 1)) t := by
  intro t kt
  refine G0 _ ?_
  refine XS.iloadN X0.here hx rfl (hb hby d7_0) rfl ?_
  refine XS.bipush X0.here hx rfl (hb hby d7_1) ?_
  exact kt
 by_cases hc3_2 : p0 = (9 : Int32)
 ·skip
  obtain ⟨fs, hr, hrun, hended, hW, hsame⟩ := X0.leave (v := some (.int (1 : Int32))) (fun h => by rw [Bd.returns] at h; cases h)
  refine ⟨_, _, G1 _ ?_, hrun, hended, _, _, rfl, ?_, ⟨_, rfl⟩, hW, hsame.mono (by decide) (by decide)⟩
  ·skip
   refine XS.icmpNo X0.here hx rfl (hb hby d7_3) rfl (teq hc3_2).2 ?_
   refine XS.iconst X0.here hx rfl (hb hby d7_6) ?_
   exact retN X0 hx (t := .boolean) Bd.returns (by simp) (hb hby d7_7) hr
  ·show Q7 Z p0 h0 n0 _ s₁.heap _
   rw [e0]
   exact ⟨by rw [fal, if_pos hc3_2], N0, rfl⟩
 ·skip
  have G3 : ∀ t, Steps p.tables e below (s₁.setTop (mkF m 11 #[iv p0] [(.int (32 : Int32)), (.int p0)])) t → Steps p.tables e below (s₁.setTop (entryFrame m #[(.int p0)] 1)) t := by
   intro t kt
   refine G1 _ ?_
   refine XS.icmpYes X0.here hx rfl (pc0 := 3) (pc' := 8) rfl (hb hby d7_3) rfl (feq hc3_2).2 (by decide) (by decide) ?_
   refine XS.iloadN X0.here hx rfl (hb hby d7_8) rfl ?_
   refine XS.bipush X0.here hx rfl (hb hby d7_9) ?_
   exact kt
  by_cases hc11_4 : p0 < (32 : Int32)
  ·skip
   have G5 : ∀ t, Steps p.tables e below (s₁.setTop (mkF m 26 #[iv p0] [(.int (128 : Int32)), (.int p0)])) t → Steps p.tables e below (s₁.setTop (entryFrame m #[(.int p0)] 1)) t := by
    intro t kt
    refine G3 _ ?_
    refine XS.icmpYes X0.here hx rfl (pc0 := 11) (pc' := 22) rfl (hb hby d7_11) rfl (tlt hc11_4).1 (by decide) (by decide) ?_
    refine XS.iloadN X0.here hx rfl (hb hby d7_22) rfl ?_
    refine XS.sipush X0.here hx rfl (hb hby d7_23) ?_
    exact kt
   obtain ⟨fs, hr, hrun, hended, hW, hsame⟩ := X0.leave (v := some (.int (0 : Int32))) (fun h => by rw [Bd.returns] at h; cases h)
   refine ⟨_, _, G5 _ ?_, hrun, hended, _, _, rfl, ?_, ⟨_, rfl⟩, hW, hsame.mono (by decide) (by decide)⟩
   ·skip
    refine XS.icmpYes X0.here hx rfl (pc0 := 26) (pc' := 38) rfl (hb hby d7_26) rfl (tlt (own_i1 hc11_4 (by decide))).1 (by decide) (by decide) ?_
    refine XS.iconst X0.here hx rfl (hb hby d7_38) ?_
    exact retN X0 hx (t := .boolean) Bd.returns (by simp) (hb hby d7_39) hr
   ·show Q7 Z p0 h0 n0 _ s₁.heap _
    rw [e0]
    exact ⟨by rw [fal, if_neg hc3_2, if_pos hc11_4], N0, rfl⟩
  ·skip
   have G6 : ∀ t, Steps p.tables e below (s₁.setTop (mkF m 17 #[iv p0] [(.int (126 : Int32)), (.int p0)])) t → Steps p.tables e below (s₁.setTop (entryFrame m #[(.int p0)] 1)) t := by
    intro t kt
    refine G3 _ ?_
    refine XS.icmpNo X0.here hx rfl (hb hby d7_11) rfl (flt hc11_4).1 ?_
    refine XS.iloadN X0.here hx rfl (hb hby d7_14) rfl ?_
    refine XS.bipush X0.here hx rfl (hb hby d7_15) ?_
    exact kt
   by_cases hc17_7 : (126 : Int32) < p0
   ·skip
    have G8 : ∀ t, Steps p.tables e below (s₁.setTop (mkF m 26 #[iv p0] [(.int (128 : Int32)), (.int p0)])) t → Steps p.tables e below (s₁.setTop (entryFrame m #[(.int p0)] 1)) t := by
     intro t kt
     refine G6 _ ?_
     refine XS.icmpYes X0.here hx rfl (pc0 := 17) (pc' := 22) rfl (hb hby d7_17) rfl (tlt hc17_7).2.2.1 (by decide) (by decide) ?_
     refine XS.iloadN X0.here hx rfl (hb hby d7_22) rfl ?_
     refine XS.sipush X0.here hx rfl (hb hby d7_23) ?_
     exact kt
    by_cases hc26_9 : p0 < (128 : Int32)
    ·skip
     obtain ⟨fs, hr, hrun, hended, hW, hsame⟩ := X0.leave (v := some (.int (0 : Int32))) (fun h => by rw [Bd.returns] at h; cases h)
     refine ⟨_, _, G8 _ ?_, hrun, hended, _, _, rfl, ?_, ⟨_, rfl⟩, hW, hsame.mono (by decide) (by decide)⟩
     ·skip
      refine XS.icmpYes X0.here hx rfl (pc0 := 26) (pc' := 38) rfl (hb hby d7_26) rfl (tlt hc26_9).1 (by decide) (by decide) ?_
      refine XS.iconst X0.here hx rfl (hb hby d7_38) ?_
      exact retN X0 hx (t := .boolean) Bd.returns (by simp) (hb hby d7_39) hr
     ·show Q7 Z p0 h0 n0 _ s₁.heap _
      rw [e0]
      exact ⟨by rw [fal, if_neg hc3_2, if_neg hc11_4, if_pos hc17_7, if_pos hc26_9], N0, rfl⟩
    ·skip
     have G10 : ∀ t, Steps p.tables e below (s₁.setTop (mkF m 33 #[iv p0] [(.int (255 : Int32)), (.int p0)])) t → Steps p.tables e below (s₁.setTop (entryFrame m #[(.int p0)] 1)) t := by
      intro t kt
      refine G8 _ ?_
      refine XS.icmpNo X0.here hx rfl (hb hby d7_26) rfl (flt hc26_9).1 ?_
      refine XS.iloadN X0.here hx rfl (hb hby d7_29) rfl ?_
      refine XS.sipush X0.here hx rfl (hb hby d7_30) ?_
      exact kt
     by_cases hc33_11 : (255 : Int32) < p0
     ·skip
      obtain ⟨fs, hr, hrun, hended, hW, hsame⟩ := X0.leave (v := some (.int (0 : Int32))) (fun h => by rw [Bd.returns] at h; cases h)
      refine ⟨_, _, G10 _ ?_, hrun, hended, _, _, rfl, ?_, ⟨_, rfl⟩, hW, hsame.mono (by decide) (by decide)⟩
      ·skip
       refine XS.icmpYes X0.here hx rfl (pc0 := 33) (pc' := 38) rfl (hb hby d7_33) rfl (tlt hc33_11).2.2.1 (by decide) (by decide) ?_
       refine XS.iconst X0.here hx rfl (hb hby d7_38) ?_
       exact retN X0 hx (t := .boolean) Bd.returns (by simp) (hb hby d7_39) hr
      ·show Q7 Z p0 h0 n0 _ s₁.heap _
       rw [e0]
       exact ⟨by rw [fal, if_neg hc3_2, if_neg hc11_4, if_pos hc17_7, if_neg hc26_9, if_pos hc33_11], N0, rfl⟩
     ·skip
      obtain ⟨fs, hr, hrun, hended, hW, hsame⟩ := X0.leave (v := some (.int (1 : Int32))) (fun h => by rw [Bd.returns] at h; cases h)
      refine ⟨_, _, G10 _ ?_, hrun, hended, _, _, rfl, ?_, ⟨_, rfl⟩, hW, hsame.mono (by decide) (by decide)⟩
      ·skip
       refine XS.icmpNo X0.here hx rfl (hb hby d7_33) rfl (flt hc33_11).2.2.1 ?_
       refine XS.iconst X0.here hx rfl (hb hby d7_36) ?_
       exact retN X0 hx (t := .boolean) Bd.returns (by simp) (hb hby d7_37) hr
      ·show Q7 Z p0 h0 n0 _ s₁.heap _
       rw [e0]
       exact ⟨by rw [fal, if_neg hc3_2, if_neg hc11_4, if_pos hc17_7, if_neg hc26_9, if_neg hc33_11], N0, rfl⟩
   ·skip
    obtain ⟨fs, hr, hrun, hended, hW, hsame⟩ := X0.leave (v := some (.int (1 : Int32))) (fun h => by rw [Bd.returns] at h; cases h)
    refine ⟨_, _, G6 _ ?_, hrun, hended, _, _, rfl, ?_, ⟨_, rfl⟩, hW, hsame.mono (by decide) (by decide)⟩
    ·skip
     refine XS.icmpNo X0.here hx rfl (hb hby d7_17) rfl (flt hc17_7).2.2.1 ?_
     refine XS.iconst X0.here hx rfl (hb hby d7_20) ?_
     exact retN X0 hx (t := .boolean) Bd.returns (by simp) (hb hby d7_21) hr
    ·show Q7 Z p0 h0 n0 _ s₁.heap _
     rw [e0]
     exact ⟨by rw [fal, if_neg hc3_2, if_neg hc11_4, if_neg hc17_7], N0, rfl⟩
def own_fv : List Int32 → Int32
  | [] => 1
  | k :: r => if fal k = (0 : Int32) then 0 else own_fv r
theorem own_al (k : Int32) : (((k.toInt = 9) ∨ (32 ≤ k.toInt ∧ k.toInt ≤ 126) ∨ (128 ≤ k.toInt ∧ k.toInt ≤ 255)) → ¬ (fal k = (0 : Int32))) ∧ (¬ ((k.toInt = 9) ∨ (32 ≤ k.toInt ∧ k.toInt ≤ 126) ∨ (128 ≤ k.toInt ∧ k.toInt ≤ 255)) → fal k = (0 : Int32)) := by
  have e9 : (9 : Int32).toInt = 9 := by decide
  have e32 : (32 : Int32).toInt = 32 := by decide
  have e126 : (126 : Int32).toInt = 126 := by decide
  have e128 : (128 : Int32).toInt = 128 := by decide
  have e255 : (255 : Int32).toInt = 255 := by decide
  have q9 : (k = (9 : Int32)) ↔ k.toInt = 9 := by rw [← Int32.toInt_inj, e9]
  rw [fal]
  simp only [Int32.lt_iff_toInt_lt, q9, e9, e32, e126, e128, e255]
  refine ⟨fun h => ?_, fun h => ?_⟩
  all_goals (repeat' split)
  all_goals first | decide | rfl | (exfalso; omega)
theorem own_k9 : (9 : Int32).toInt = 9 := by decide
theorem own_k32 : (32 : Int32).toInt = 32 := by decide
theorem own_k127 : (127 : Int32).toInt = 127 := by decide
theorem own_k255 : (255 : Int32).toInt = 255 := by decide
theorem d8_0 : decode prog_13_method_11_code 0 = .ok (.iconst 0, 1) := by decide +kernel
theorem d8_1 : decode prog_13_method_11_code 1 = .ok (.istore_n 1, 1) := by decide +kernel
theorem d8_2 : decode prog_13_method_11_code 2 = .ok (.iload_n 1, 1) := by decide +kernel
theorem d8_3 : decode prog_13_method_11_code 3 = .ok (.aload_n 0, 1) := by decide +kernel
theorem d8_4 : decode prog_13_method_11_code 4 = .ok (.invokevirtual 94, 3) := by decide +kernel
theorem pd_14 : parseMethodDescriptor "()I" = some ⟨[], some .int⟩ := by decide +kernel
theorem d8_7 : decode prog_13_method_11_code 7 = .ok (.if_icmp .ge 42, 3) := by decide +kernel
theorem d8_49 : decode prog_13_method_11_code 49 = .ok (.iconst 1, 1) := by decide +kernel
theorem d8_50 : decode prog_13_method_11_code 50 = .ok (.ireturn, 1) := by decide +kernel
def QrmFVL0 (Z : State) (r0 : Addr) (ta : Addr) (kb : ClassId) (cst : Int32) (fv : Value) (h0 : Heap) (n0 : Nat) (v : Option Value) (h : Heap) (L : List Loc) : Prop := v = some (.int (own_fv [])) ∧ Fr n0 L ∧ h = h0
theorem ef_rmFVL0 (m : MethodId) (x0 : Addr) : entryFrame m #[(.ref x0)] 3 = mkF m 0 #[.val (.ref x0), .unset, .unset] [] := by first | (simp [entryFrame, mkF, argsToLocals, Value.category]; done) | rfl
theorem pnc_com_example_wary_bearer_warybearer_http_Http1Reader : plainName "com/example/wary_bearer/warybearer/http/Http1Reader" = true := by first | (simp [plainName, overriddenIn]; done) | decide +kernel
set_option maxRecDepth 65536 in
set_option maxHeartbeats 40000000 in
theorem rmFVL0 (l : Launch) (Z : State) (a0 : Array Value) (hw : ∀ d ∈ tables_1, d.before a0 Z = true) (ws : List Jvm.Cond) (r0 : Addr) (ta : Addr) (kb : ClassId) (cst : Int32) (fv : Value) (h0 : Heap) (n0 : Nat) (Z0 : n0 ≤ h0.size) (E0 : Exa Z h0 r0 "java/lang/String") (Fc : Fld Z h0 r0 "java/lang/String" "coder" "B" (.int (0 : Int32))) (Fv : Fld Z h0 r0 "java/lang/String" "value" "[B" (.ref ta)) (V0 : Arv Z h0 ta kb .byte (0 : Int32) [] (.int (0 : Int32))) (O0 : Old Z n0 h0) (SS : Sts Z cst fv) :
  MetFree l (⟨"com/example/wary_bearer/warybearer/http/Http1Reader", "isFieldValue", "(Ljava/lang/String;)Z"⟩ : MethodName) (head1 (Jvm.Cond.code (⟨"com/example/wary_bearer/warybearer/http/Http1Reader", "isFieldValue", "(Ljava/lang/String;)Z"⟩ : MethodName) prog_13_method_11_code 3 (some .boolean) :: ws) ({ frames := 2, cells := 0, slots := 0, locals := 26 } : Room)) (fun a U => a = #[(.ref r0)] ∧ Z.Warmed39 U.vm ∧ U.heap = h0) (fun _ _ _ _ _ => True) (fun _ U o U' => ∃ v L, o = .returned v ∧ QrmFVL0 Z r0 ta kb cst fv h0 n0 v U'.heap L ∧ FrameEnd U o U' L ({ frames := 2, cells := 0, slots := 0, locals := 26 } : Room).cells ({ frames := 2, cells := 0, slots := 0, locals := 26 } : Room).slots) := by
 refine MetFree.of_bodySF (plainFor_of_name pnc_com_example_wary_bearer_warybearer_http_Http1Reader) hisR ?_
 intro p e s m args below meth c s₁ Bd hml0 hP hK
 obtain ⟨rfl, hZ, hh⟩ := hP
 have hx := Bd.exec
 have hby := Bd.bytes
 have hml : c.maxLocals = 3 := hml0
 have hown : s.vm.findClass "com/example/wary_bearer/warybearer/http/Http1Reader" = some m.cls := findClass_of_methodNamed Bd.named
 have hnm := (name_of_methodNamed Bd.named Bd.method).1
 have X0 : Stand p l e ({ frames := 2, cells := 0, slots := 0, locals := 26 } : Room) s m #[(.ref r0)] below meth c s₁ [] 0 0 := Stand.of_body Bd
 have e0 : s₁.heap = h0 := by rw [← hh, Bd.state]; rfl
 have N0 := Fr.nil n0
 have kp0 : Keep h0 h0 [] := Keep.refl _ _
 have G0 : ∀ t, Steps p.tables e below (s₁.setTop (mkF m 0 #[rv r0, .unset, .unset] [])) t → Steps p.tables e below (s₁.setTop (entryFrame m #[(.ref r0)] 3)) t := fun t k => castTop (ef_rmFVL0 m r0) k
 obtain ⟨cq1, kq1, q1a, q1b, q1c⟩ := isOf hZ e0 E0
 obtain ⟨_, _, ⟨T1, L1, k1, n1⟩, -, X1, ⟨Lc1, hQ1, l1, y1, z1⟩, st1⟩ := X0.virtualBack hx (y := (⟨"java/lang/String", "length", "()I"⟩ : MethodName)) (z := (⟨"java/lang/String", "length", "()I"⟩ : MethodName)) hown (mvT hZ (hq hw 38 rfl)) (mvT hZ (hq hw 39 rfl)) (notFace_of_selects (args := #[]) (mvT hZ (hq hw 41 rfl))) (mvT hZ (hq hw 41 rfl)) (mvT hZ (hq hw 40 rfl)) (by decide) (backOf (W := 1) (rm9 l Z a0 hw [] r0 (0 : Int32) ta kb (0 : Int32) [] (0 : Int32) cst fv h0 n0 Z0 E0 Fc Fv V0 O0 (by decide) SS) hZ (hq hw 42 rfl) (hq hw 3 rfl) (by decide) (by decide)) q1a q1c (g := (mkF m 4 #[rv r0, iv 0, .unset] [(.ref r0), (.int (0 : Int32))])) rfl (by rw [hml]; rfl) (Steps.refl _) (argsL := []) (rest := [(.int (0 : Int32))]) (lenOf pd_14 rfl) rfl (by show 2 * 0 + _ ≤ _; exact Nat.le_of_eq rfl) (hb hby d8_4) (fun _ _ => ⟨rfl, e0, (by decide : 0 + 0 ≤ _), (by decide : 0 + 0 ≤ _)⟩)
 dsimp only [Pt.U, Pt.locs, Pt.cells, Pt.slots] at X1 l1 y1 z1 st1 hQ1
 subst l1 y1 z1
 obtain ⟨rfl, N1q, eh1⟩ := hQ1
 have N1 := Fr.app N0 N1q
 have G2 : ∀ t, Steps p.tables e below (T1.setTop (mkF m 7 #[rv r0, iv 0, .unset] [(.int (0 : Int32)), (.int (0 : Int32))])) t → Steps p.tables e below (s₁.setTop (entryFrame m #[(.ref r0)] 3)) t := by
  intro t kt
  refine G0 _ ?_
  refine XS.iconst X0.here hx rfl (hb hby d8_0) ?_
  refine XS.istoreN X0.here hx rfl (hb hby d8_1) rfl (l' := #[rv r0, iv 0, .unset]) rfl ?_
  refine XS.iloadN X0.here hx rfl (hb hby d8_2) rfl ?_
  refine XS.aloadN X0.here hx rfl (hb hby d8_3) rfl rfl ?_
  refine st1.trans ?_
  exact kt
 obtain ⟨fs, hr, hrun, hended, hW, hsame⟩ := X1.leave (v := some (.int (1 : Int32))) (fun h => by rw [Bd.returns] at h; cases h)
 refine ⟨_, _, G2 _ ?_, hrun, hended, _, _, rfl, ?_, ⟨_, rfl⟩, hW, hsame.mono (by decide) (by decide)⟩
 ·skip
  refine XS.icmpYes X1.here hx rfl (pc0 := 7) (pc' := 49) rfl (hb hby d8_7) rfl (flt (by decide)).2.1 (by decide) (by decide) ?_
  refine XS.iconst X1.here hx rfl (hb hby d8_49) ?_
  exact retN X1 hx (t := .boolean) Bd.returns (by simp) (hb hby d8_50) hr
 ·show QrmFVL0 Z r0 ta kb cst fv h0 n0 _ T1.heap _
  rw [eh1]
  exact ⟨by rw [own_fv], N1, rfl⟩
theorem d8_10 : decode prog_13_method_11_code 10 = .ok (.aload_n 0, 1) := by decide +kernel
theorem d8_11 : decode prog_13_method_11_code 11 = .ok (.iload_n 1, 1) := by decide +kernel
theorem d8_12 : decode prog_13_method_11_code 12 = .ok (.invokevirtual 144, 3) := by decide +kernel
theorem pd_15 : parseMethodDescriptor "(I)C" = some ⟨[.int], some .char⟩ := by decide +kernel
theorem d8_15 : decode prog_13_method_11_code 15 = .ok (.istore_n 2, 1) := by decide +kernel
theorem d8_16 : decode prog_13_method_11_code 16 = .ok (.iload_n 2, 1) := by decide +kernel
theorem d8_17 : decode prog_13_method_11_code 17 = .ok (.bipush 32, 2) := by decide +kernel
theorem d8_19 : decode prog_13_method_11_code 19 = .ok (.if_icmp .ge 9, 3) := by decide +kernel
theorem d8_22 : decode prog_13_method_11_code 22 = .ok (.iload_n 2, 1) := by decide +kernel
theorem d8_23 : decode prog_13_method_11_code 23 = .ok (.bipush 9, 2) := by decide +kernel
theorem d8_25 : decode prog_13_method_11_code 25 = .ok (.if_icmp .ne 16, 3) := by decide +kernel
theorem d8_28 : decode prog_13_method_11_code 28 = .ok (.iload_n 2, 1) := by decide +kernel
theorem d8_29 : decode prog_13_method_11_code 29 = .ok (.bipush 127, 2) := by decide +kernel
theorem d8_31 : decode prog_13_method_11_code 31 = .ok (.if_icmp .eq 10, 3) := by decide +kernel
theorem d8_41 : decode prog_13_method_11_code 41 = .ok (.iconst 0, 1) := by decide +kernel
theorem d8_42 : decode prog_13_method_11_code 42 = .ok (.ireturn, 1) := by decide +kernel
theorem d8_34 : decode prog_13_method_11_code 34 = .ok (.iload_n 2, 1) := by decide +kernel
theorem d8_35 : decode prog_13_method_11_code 35 = .ok (.sipush 255, 3) := by decide +kernel
theorem d8_38 : decode prog_13_method_11_code 38 = .ok (.if_icmp .le 5, 3) := by decide +kernel
theorem d8_43 : decode prog_13_method_11_code 43 = .ok (.iinc 1 1, 3) := by decide +kernel
theorem d8_46 : decode prog_13_method_11_code 46 = .ok (.goto (-44), 3) := by decide +kernel
def QrmFVL1 (Z : State) (r0 : Addr) (c0 : Int32) (ta : Addr) (kb : ClassId) (cst : Int32) (fv : Value) (h0 : Heap) (n0 : Nat) (v : Option Value) (h : Heap) (L : List Loc) : Prop := v = some (.int (own_fv [c0])) ∧ Fr n0 L ∧ h = h0
theorem ef_rmFVL1 (m : MethodId) (x0 : Addr) : entryFrame m #[(.ref x0)] 3 = mkF m 0 #[.val (.ref x0), .unset, .unset] [] := by first | (simp [entryFrame, mkF, argsToLocals, Value.category]; done) | rfl
set_option maxRecDepth 65536 in
set_option maxHeartbeats 40000000 in
theorem rmFVL1 (l : Launch) (Z : State) (a0 : Array Value) (hw : ∀ d ∈ tables_1, d.before a0 Z = true) (ws : List Jvm.Cond) (r0 : Addr) (c0 : Int32) (ta : Addr) (kb : ClassId) (cst : Int32) (fv : Value) (h0 : Heap) (n0 : Nat) (Z0 : n0 ≤ h0.size) (E0 : Exa Z h0 r0 "java/lang/String") (Fc : Fld Z h0 r0 "java/lang/String" "coder" "B" (.int (0 : Int32))) (Fv : Fld Z h0 r0 "java/lang/String" "value" "[B" (.ref ta)) (V0 : Arv Z h0 ta kb .byte (1 : Int32) [(.int (nar .byte (c0.toInt8.toInt32)))] (.int (0 : Int32))) (O0 : Old Z n0 h0) (hb0 : 0 ≤ c0.toInt ∧ c0.toInt ≤ 65535) (hl0 : ¬ ((255 : Int32) < c0)) (SS : Sts Z cst fv) :
  MetFree l (⟨"com/example/wary_bearer/warybearer/http/Http1Reader", "isFieldValue", "(Ljava/lang/String;)Z"⟩ : MethodName) (head1 (Jvm.Cond.code (⟨"com/example/wary_bearer/warybearer/http/Http1Reader", "isFieldValue", "(Ljava/lang/String;)Z"⟩ : MethodName) prog_13_method_11_code 3 (some .boolean) :: ws) ({ frames := 5, cells := 0, slots := 0, locals := 66 } : Room)) (fun a U => a = #[(.ref r0)] ∧ Z.Warmed39 U.vm ∧ U.heap = h0) (fun _ _ _ _ _ => True) (fun _ U o U' => ∃ v L, o = .returned v ∧ QrmFVL1 Z r0 c0 ta kb cst fv h0 n0 v U'.heap L ∧ FrameEnd U o U' L ({ frames := 5, cells := 0, slots := 0, locals := 66 } : Room).cells ({ frames := 5, cells := 0, slots := 0, locals := 66 } : Room).slots) := by
 refine MetFree.of_bodySF (plainFor_of_name pnc_com_example_wary_bearer_warybearer_http_Http1Reader) hisR ?_
 intro p e s m args below meth c s₁ Bd hml0 hP hK
 obtain ⟨rfl, hZ, hh⟩ := hP
 have hx := Bd.exec
 have hby := Bd.bytes
 have hml : c.maxLocals = 3 := hml0
 have hown : s.vm.findClass "com/example/wary_bearer/warybearer/http/Http1Reader" = some m.cls := findClass_of_methodNamed Bd.named
 have hnm := (name_of_methodNamed Bd.named Bd.method).1
 have X0 : Stand p l e ({ frames := 5, cells := 0, slots := 0, locals := 66 } : Room) s m #[(.ref r0)] below meth c s₁ [] 0 0 := Stand.of_body Bd
 have e0 : s₁.heap = h0 := by rw [← hh, Bd.state]; rfl
 have N0 := Fr.nil n0
 have kp0 : Keep h0 h0 [] := Keep.refl _ _
 have G0 : ∀ t, Steps p.tables e below (s₁.setTop (mkF m 0 #[rv r0, .unset, .unset] [])) t → Steps p.tables e below (s₁.setTop (entryFrame m #[(.ref r0)] 3)) t := fun t k => castTop (ef_rmFVL1 m r0) k
 obtain ⟨cq1, kq1, q1a, q1b, q1c⟩ := isOf hZ e0 E0
 obtain ⟨_, _, ⟨T1, L1, k1, n1⟩, -, X1, ⟨Lc1, hQ1, l1, y1, z1⟩, st1⟩ := X0.virtualBack hx (y := (⟨"java/lang/String", "length", "()I"⟩ : MethodName)) (z := (⟨"java/lang/String", "length", "()I"⟩ : MethodName)) hown (mvT hZ (hq hw 38 rfl)) (mvT hZ (hq hw 39 rfl)) (notFace_of_selects (args := #[]) (mvT hZ (hq hw 41 rfl))) (mvT hZ (hq hw 41 rfl)) (mvT hZ (hq hw 40 rfl)) (by decide) (backOf (W := 1) (rm9 l Z a0 hw [] r0 (0 : Int32) ta kb (1 : Int32) [(.int (nar .byte (c0.toInt8.toInt32)))] (1 : Int32) cst fv h0 n0 Z0 E0 Fc Fv V0 O0 (by decide) SS) hZ (hq hw 42 rfl) (hq hw 3 rfl) (by decide) (by decide)) q1a q1c (g := (mkF m 4 #[rv r0, iv 0, .unset] [(.ref r0), (.int (0 : Int32))])) rfl (by rw [hml]; rfl) (Steps.refl _) (argsL := []) (rest := [(.int (0 : Int32))]) (lenOf pd_14 rfl) rfl (by show 2 * 0 + _ ≤ _; exact Nat.le_of_eq rfl) (hb hby d8_4) (fun _ _ => ⟨rfl, e0, (by decide : 0 + 0 ≤ _), (by decide : 0 + 0 ≤ _)⟩)
 dsimp only [Pt.U, Pt.locs, Pt.cells, Pt.slots] at X1 l1 y1 z1 st1 hQ1
 subst l1 y1 z1
 obtain ⟨rfl, N1q, eh1⟩ := hQ1
 have N1 := Fr.app N0 N1q
 have G2 : ∀ t, Steps p.tables e below (T1.setTop (mkF m 7 #[rv r0, iv 0, .unset] [(.int (1 : Int32)), (.int (0 : Int32))])) t → Steps p.tables e below (s₁.setTop (entryFrame m #[(.ref r0)] 3)) t := by
  intro t kt
  refine G0 _ ?_
  refine XS.iconst X0.here hx rfl (hb hby d8_0) ?_
  refine XS.istoreN X0.here hx rfl (hb hby d8_1) rfl (l' := #[rv r0, iv 0, .unset]) rfl ?_
  refine XS.iloadN X0.here hx rfl (hb hby d8_2) rfl ?_
  refine XS.aloadN X0.here hx rfl (hb hby d8_3) rfl rfl ?_
  refine st1.trans ?_
  exact kt
 obtain ⟨cq3, kq3, q3a, q3b, q3c⟩ := isOf hZ eh1 E0
 obtain ⟨_, _, ⟨T3, L3, k3, n3⟩, -, X3, ⟨Lc3, hQ3, l3, y3, z3⟩, st3⟩ := X1.virtualBack hx (y := (⟨"java/lang/String", "charAt", "(I)C"⟩ : MethodName)) (z := (⟨"java/lang/String", "charAt", "(I)C"⟩ : MethodName)) hown (mvT hZ (hq hw 48 rfl)) (mvT hZ (hq hw 49 rfl)) (notFace_of_selects (args := #[]) (mvT hZ (hq hw 51 rfl))) (mvT hZ (hq hw 51 rfl)) (mvT hZ (hq hw 50 rfl)) (by decide) (backOf (W := 0) (rmChL l Z a0 hw [] r0 (0 : Int32) ta kb (1 : Int32) [(.int (nar .byte (c0.toInt8.toInt32)))] (nar .byte (c0.toInt8.toInt32)) c0 cst fv h0 n0 Z0 E0 Fc Fv V0 O0 (by decide) (by decide) rfl (own_lat c0 hb0 hl0) SS) hZ (hq hw 52 rfl) (hq hw 3 rfl) (by decide) (by decide)) q3a q3c (g := (mkF m 12 #[rv r0, iv 0, .unset] [(.int (0 : Int32)), (.ref r0)])) rfl (by rw [hml]; rfl) (Steps.refl _) (argsL := [(.int (0 : Int32))]) (rest := []) (lenOf pd_15 rfl) rfl (by show 2 * 0 + _ ≤ _; exact Nat.le_of_eq rfl) (hb hby d8_12) (fun _ _ => ⟨rfl, eh1, (by decide : 0 + 0 ≤ _), (by decide : 0 + 0 ≤ _)⟩)
 dsimp only [Pt.U, Pt.locs, Pt.cells, Pt.slots] at X3 l3 y3 z3 st3 hQ3
 subst l3 y3 z3
 obtain ⟨rfl, N3q, eh3⟩ := hQ3
 have N3 := Fr.app N1 N3q
 have G4 : ∀ t, Steps p.tables e below (T3.setTop (mkF m 19 #[rv r0, iv 0, iv c0] [(.int (32 : Int32)), (.int c0)])) t → Steps p.tables e below (s₁.setTop (entryFrame m #[(.ref r0)] 3)) t := by
  intro t kt
  refine G2 _ ?_
  refine XS.icmpNo X1.here hx rfl (hb hby d8_7) rfl (tlt (by decide)).2.1 ?_
  refine XS.aloadN X1.here hx rfl (hb hby d8_10) rfl rfl ?_
  refine XS.iloadN X1.here hx rfl (hb hby d8_11) rfl ?_
  refine st3.trans ?_
  refine XS.istoreN X3.here hx rfl (hb hby d8_15) rfl (l' := #[rv r0, iv 0, iv c0]) rfl ?_
  refine XS.iloadN X3.here hx rfl (hb hby d8_16) rfl ?_
  refine XS.bipush X3.here hx rfl (hb hby d8_17) ?_
  exact kt
 by_cases hc19_5 : c0 < (32 : Int32)
 ·skip
  have G6 : ∀ t, Steps p.tables e below (T3.setTop (mkF m 25 #[rv r0, iv 0, iv c0] [(.int (9 : Int32)), (.int c0)])) t → Steps p.tables e below (s₁.setTop (entryFrame m #[(.ref r0)] 3)) t := by
   intro t kt
   refine G4 _ ?_
   refine XS.icmpNo X3.here hx rfl (hb hby d8_19) rfl (tlt hc19_5).2.1 ?_
   refine XS.iloadN X3.here hx rfl (hb hby d8_22) rfl ?_
   refine XS.bipush X3.here hx rfl (hb hby d8_23) ?_
   exact kt
  by_cases hc25_7 : c0 = (9 : Int32)
  ·skip
   have G8 : ∀ t, Steps p.tables e below (T3.setTop (mkF m 31 #[rv r0, iv 0, iv c0] [(.int (127 : Int32)), (.int c0)])) t → Steps p.tables e below (s₁.setTop (entryFrame m #[(.ref r0)] 3)) t := by
    intro t kt
    refine G6 _ ?_
    refine XS.icmpNo X3.here hx rfl (hb hby d8_25) rfl (teq hc25_7).2 ?_
    refine XS.iloadN X3.here hx rfl (hb hby d8_28) rfl ?_
    refine XS.bipush X3.here hx rfl (hb hby d8_29) ?_
    exact kt
   by_cases hc31_9 : c0 = (127 : Int32)
   ·skip
    obtain ⟨fs, hr, hrun, hended, hW, hsame⟩ := X3.leave (v := some (.int (0 : Int32))) (fun h => by rw [Bd.returns] at h; cases h)
    refine ⟨_, _, G8 _ ?_, hrun, hended, _, _, rfl, ?_, ⟨_, rfl⟩, hW, hsame.mono (by decide) (by decide)⟩
    ·skip
     refine XS.icmpYes X3.here hx rfl (pc0 := 31) (pc' := 41) rfl (hb hby d8_31) rfl (teq hc31_9).1 (by decide) (by decide) ?_
     refine XS.iconst X3.here hx rfl (hb hby d8_41) ?_
     exact retN X3 hx (t := .boolean) Bd.returns (by simp) (hb hby d8_42) hr
    ·show QrmFVL1 Z r0 c0 ta kb cst fv h0 n0 _ T3.heap _
     rw [eh3]
     exact ⟨by rw [own_fv, if_pos ((own_al c0).2 (by have q0 := hc19_5; have q1 := hc25_7; have q2 := hc31_9; simp only [Int32.lt_iff_toInt_lt, ← Int32.toInt_inj, own_k9, own_k32, own_k127, own_k255] at q0 q1 q2; omega))], N3, rfl⟩
   ·skip
    have G10 : ∀ t, Steps p.tables e below (T3.setTop (mkF m 38 #[rv r0, iv 0, iv c0] [(.int (255 : Int32)), (.int c0)])) t → Steps p.tables e below (s₁.setTop (entryFrame m #[(.ref r0)] 3)) t := by
     intro t kt
     refine G8 _ ?_
     refine XS.icmpNo X3.here hx rfl (hb hby d8_31) rfl (feq hc31_9).1 ?_
     refine XS.iloadN X3.here hx rfl (hb hby d8_34) rfl ?_
     refine XS.sipush X3.here hx rfl (hb hby d8_35) ?_
     exact kt
    by_cases hc38_11 : (255 : Int32) < c0
    ·skip
     obtain ⟨fs, hr, hrun, hended, hW, hsame⟩ := X3.leave (v := some (.int (0 : Int32))) (fun h => by rw [Bd.returns] at h; cases h)
     refine ⟨_, _, G10 _ ?_, hrun, hended, _, _, rfl, ?_, ⟨_, rfl⟩, hW, hsame.mono (by decide) (by decide)⟩
     ·skip
      refine XS.icmpNo X3.here hx rfl (hb hby d8_38) rfl (tlt hc38_11).2.2.2 ?_
      refine XS.iconst X3.here hx rfl (hb hby d8_41) ?_
      exact retN X3 hx (t := .boolean) Bd.returns (by simp) (hb hby d8_42) hr
     ·show QrmFVL1 Z r0 c0 ta kb cst fv h0 n0 _ T3.heap _
      rw [eh3]
      exact ⟨by rw [own_fv, if_pos ((own_al c0).2 (by have q0 := hc19_5; have q1 := hc25_7; have q2 := hc31_9; have q3 := hc38_11; simp only [Int32.lt_iff_toInt_lt, ← Int32.toInt_inj, own_k9, own_k32, own_k127, own_k255] at q0 q1 q2 q3; omega))], N3, rfl⟩
    ·skip
     obtain ⟨cq12, kq12, q12a, q12b, q12c⟩ := isOf hZ eh3 E0
     obtain ⟨_, _, ⟨T12, L12, k12, n12⟩, -, X12, ⟨Lc12, hQ12, l12, y12, z12⟩, st12⟩ := X3.virtualBack hx (y := (⟨"java/lang/String", "length", "()I"⟩ : MethodName)) (z := (⟨"java/lang/String", "length", "()I"⟩ : MethodName)) hown (mvT hZ (hq hw 38 rfl)) (mvT hZ (hq hw 39 rfl)) (notFace_of_selects (args := #[]) (mvT hZ (hq hw 41 rfl))) (mvT hZ (hq hw 41 rfl)) (mvT hZ (hq hw 40 rfl)) (by decide) (backOf (W := 1) (rm9 l Z a0 hw [] r0 (0 : Int32) ta kb (1 : Int32) [(.int (nar .byte (c0.toInt8.toInt32)))] (1 : Int32) cst fv h0 n0 Z0 E0 Fc Fv V0 O0 (by decide) SS) hZ (hq hw 42 rfl) (hq hw 3 rfl) (by decide) (by decide)) q12a q12c (g := (mkF m 4 #[rv r0, iv 1, iv c0] [(.ref r0), (.int (1 : Int32))])) rfl (by rw [hml]; rfl) (Steps.refl _) (argsL := []) (rest := [(.int (1 : Int32))]) (lenOf pd_14 rfl) rfl (by show 2 * 0 + _ ≤ _; exact Nat.le_of_eq rfl) (hb hby d8_4) (fun _ _ => ⟨rfl, eh3, (by decide : 0 + 0 ≤ _), (by decide : 0 + 0 ≤ _)⟩)
     dsimp only [Pt.U, Pt.locs, Pt.cells, Pt.slots] at X12 l12 y12 z12 st12 hQ12
     subst l12 y12 z12
     obtain ⟨rfl, N12q, eh12⟩ := hQ12
     have N12 := Fr.app N3 N12q
     have G13 : ∀ t, Steps p.tables e below (T12.setTop (mkF m 7 #[rv r0, iv 1, iv c0] [(.int (1 : Int32)), (.int (1 : Int32))])) t → Steps p.tables e below (s₁.setTop (entryFrame m #[(.ref r0)] 3)) t := by
      intro t kt
      refine G10 _ ?_
      refine XS.icmpYes X3.here hx rfl (pc0 := 38) (pc' := 43) rfl (hb hby d8_38) rfl (flt hc38_11).2.2.2 (by decide) (by decide) ?_
      refine XS.iinc X3.here hx rfl (hb hby d8_43) rfl (l' := #[rv r0, iv 1, iv c0]) rfl ?_
      refine XS.goto X3.here hx rfl (pc0 := 46) (pc' := 2) rfl (hb hby d8_46) (by decide) (by decide) ?_
      show Steps p.tables e below (T3.setTop (mkF m 2 #[rv r0, iv 1, iv c0] [])) _
      refine XS.iloadN X3.here hx rfl (hb hby d8_2) rfl ?_
      refine XS.aloadN X3.here hx rfl (hb hby d8_3) rfl rfl ?_
      refine st12.trans ?_
      exact kt
     obtain ⟨fs, hr, hrun, hended, hW, hsame⟩ := X12.leave (v := some (.int (1 : Int32))) (fun h => by rw [Bd.returns] at h; cases h)
     refine ⟨_, _, G13 _ ?_, hrun, hended, _, _, rfl, ?_, ⟨_, rfl⟩, hW, hsame.mono (by decide) (by decide)⟩
     ·skip
      refine XS.icmpYes X12.here hx rfl (pc0 := 7) (pc' := 49) rfl (hb hby d8_7) rfl (flt (by decide)).2.1 (by decide) (by decide) ?_
      refine XS.iconst X12.here hx rfl (hb hby d8_49) ?_
      exact retN X12 hx (t := .boolean) Bd.returns (by simp) (hb hby d8_50) hr
     ·show QrmFVL1 Z r0 c0 ta kb cst fv h0 n0 _ T12.heap _
      rw [eh12]
      exact ⟨by rw [own_fv, if_neg ((own_al c0).1 (by have q0 := hc19_5; have q1 := hc25_7; have q2 := hc31_9; have q3 := hc38_11; simp only [Int32.lt_iff_toInt_lt, ← Int32.toInt_inj, own_k9, own_k32, own_k127, own_k255] at q0 q1 q2 q3; omega)), own_fv], N12, rfl⟩
  ·skip
   obtain ⟨fs, hr, hrun, hended, hW, hsame⟩ := X3.leave (v := some (.int (0 : Int32))) (fun h => by rw [Bd.returns] at h; cases h)
   refine ⟨_, _, G6 _ ?_, hrun, hended, _, _, rfl, ?_, ⟨_, rfl⟩, hW, hsame.mono (by decide) (by decide)⟩
   ·skip
    refine XS.icmpYes X3.here hx rfl (pc0 := 25) (pc' := 41) rfl (hb hby d8_25) rfl (feq hc25_7).2 (by decide) (by decide) ?_
    refine XS.iconst X3.here hx rfl (hb hby d8_41) ?_
    exact retN X3 hx (t := .boolean) Bd.returns (by simp) (hb hby d8_42) hr
   ·show QrmFVL1 Z r0 c0 ta kb cst fv h0 n0 _ T3.heap _
    rw [eh3]
    exact ⟨by rw [own_fv, if_pos ((own_al c0).2 (by have q0 := hc19_5; have q1 := hc25_7; simp only [Int32.lt_iff_toInt_lt, ← Int32.toInt_inj, own_k9, own_k32, own_k127, own_k255] at q0 q1; omega))], N3, rfl⟩
 ·skip
  have G14 : ∀ t, Steps p.tables e below (T3.setTop (mkF m 31 #[rv r0, iv 0, iv c0] [(.int (127 : Int32)), (.int c0)])) t → Steps p.tables e below (s₁.setTop (entryFrame m #[(.ref r0)] 3)) t := by
   intro t kt
   refine G4 _ ?_
   refine XS.icmpYes X3.here hx rfl (pc0 := 19) (pc' := 28) rfl (hb hby d8_19) rfl (flt hc19_5).2.1 (by decide) (by decide) ?_
   refine XS.iloadN X3.here hx rfl (hb hby d8_28) rfl ?_
   refine XS.bipush X3.here hx rfl (hb hby d8_29) ?_
   exact kt
  by_cases hc31_15 : c0 = (127 : Int32)
  ·skip
   obtain ⟨fs, hr, hrun, hended, hW, hsame⟩ := X3.leave (v := some (.int (0 : Int32))) (fun h => by rw [Bd.returns] at h; cases h)
   refine ⟨_, _, G14 _ ?_, hrun, hended, _, _, rfl, ?_, ⟨_, rfl⟩, hW, hsame.mono (by decide) (by decide)⟩
   ·skip
    refine XS.icmpYes X3.here hx rfl (pc0 := 31) (pc' := 41) rfl (hb hby d8_31) rfl (teq hc31_15).1 (by decide) (by decide) ?_
    refine XS.iconst X3.here hx rfl (hb hby d8_41) ?_
    exact retN X3 hx (t := .boolean) Bd.returns (by simp) (hb hby d8_42) hr
   ·show QrmFVL1 Z r0 c0 ta kb cst fv h0 n0 _ T3.heap _
    rw [eh3]
    exact ⟨by rw [own_fv, if_pos ((own_al c0).2 (by have q0 := hc19_5; have q1 := hc31_15; simp only [Int32.lt_iff_toInt_lt, ← Int32.toInt_inj, own_k9, own_k32, own_k127, own_k255] at q0 q1; omega))], N3, rfl⟩
  ·skip
   have G16 : ∀ t, Steps p.tables e below (T3.setTop (mkF m 38 #[rv r0, iv 0, iv c0] [(.int (255 : Int32)), (.int c0)])) t → Steps p.tables e below (s₁.setTop (entryFrame m #[(.ref r0)] 3)) t := by
    intro t kt
    refine G14 _ ?_
    refine XS.icmpNo X3.here hx rfl (hb hby d8_31) rfl (feq hc31_15).1 ?_
    refine XS.iloadN X3.here hx rfl (hb hby d8_34) rfl ?_
    refine XS.sipush X3.here hx rfl (hb hby d8_35) ?_
    exact kt
   by_cases hc38_17 : (255 : Int32) < c0
   ·skip
    obtain ⟨fs, hr, hrun, hended, hW, hsame⟩ := X3.leave (v := some (.int (0 : Int32))) (fun h => by rw [Bd.returns] at h; cases h)
    refine ⟨_, _, G16 _ ?_, hrun, hended, _, _, rfl, ?_, ⟨_, rfl⟩, hW, hsame.mono (by decide) (by decide)⟩
    ·skip
     refine XS.icmpNo X3.here hx rfl (hb hby d8_38) rfl (tlt hc38_17).2.2.2 ?_
     refine XS.iconst X3.here hx rfl (hb hby d8_41) ?_
     exact retN X3 hx (t := .boolean) Bd.returns (by simp) (hb hby d8_42) hr
    ·show QrmFVL1 Z r0 c0 ta kb cst fv h0 n0 _ T3.heap _
     rw [eh3]
     exact ⟨by rw [own_fv, if_pos ((own_al c0).2 (by have q0 := hc19_5; have q1 := hc31_15; have q2 := hc38_17; simp only [Int32.lt_iff_toInt_lt, ← Int32.toInt_inj, own_k9, own_k32, own_k127, own_k255] at q0 q1 q2; omega))], N3, rfl⟩
   ·skip
    obtain ⟨cq18, kq18, q18a, q18b, q18c⟩ := isOf hZ eh3 E0
    obtain ⟨_, _, ⟨T18, L18, k18, n18⟩, -, X18, ⟨Lc18, hQ18, l18, y18, z18⟩, st18⟩ := X3.virtualBack hx (y := (⟨"java/lang/String", "length", "()I"⟩ : MethodName)) (z := (⟨"java/lang/String", "length", "()I"⟩ : MethodName)) hown (mvT hZ (hq hw 38 rfl)) (mvT hZ (hq hw 39 rfl)) (notFace_of_selects (args := #[]) (mvT hZ (hq hw 41 rfl))) (mvT hZ (hq hw 41 rfl)) (mvT hZ (hq hw 40 rfl)) (by decide) (backOf (W := 1) (rm9 l Z a0 hw [] r0 (0 : Int32) ta kb (1 : Int32) [(.int (nar .byte (c0.toInt8.toInt32)))] (1 : Int32) cst fv h0 n0 Z0 E0 Fc Fv V0 O0 (by decide) SS) hZ (hq hw 42 rfl) (hq hw 3 rfl) (by decide) (by decide)) q18a q18c (g := (mkF m 4 #[rv r0, iv 1, iv c0] [(.ref r0), (.int (1 : Int32))])) rfl (by rw [hml]; rfl) (Steps.refl _) (argsL := []) (rest := [(.int (1 : Int32))]) (lenOf pd_14 rfl) rfl (by show 2 * 0 + _ ≤ _; exact Nat.le_of_eq rfl) (hb hby d8_4) (fun _ _ => ⟨rfl, eh3, (by decide : 0 + 0 ≤ _), (by decide : 0 + 0 ≤ _)⟩)
    dsimp only [Pt.U, Pt.locs, Pt.cells, Pt.slots] at X18 l18 y18 z18 st18 hQ18
    subst l18 y18 z18
    obtain ⟨rfl, N18q, eh18⟩ := hQ18
    have N18 := Fr.app N3 N18q
    have G19 : ∀ t, Steps p.tables e below (T18.setTop (mkF m 7 #[rv r0, iv 1, iv c0] [(.int (1 : Int32)), (.int (1 : Int32))])) t → Steps p.tables e below (s₁.setTop (entryFrame m #[(.ref r0)] 3)) t := by
     intro t kt
     refine G16 _ ?_
     refine XS.icmpYes X3.here hx rfl (pc0 := 38) (pc' := 43) rfl (hb hby d8_38) rfl (flt hc38_17).2.2.2 (by decide) (by decide) ?_
     refine XS.iinc X3.here hx rfl (hb hby d8_43) rfl (l' := #[rv r0, iv 1, iv c0]) rfl ?_
     refine XS.goto X3.here hx rfl (pc0 := 46) (pc' := 2) rfl (hb hby d8_46) (by decide) (by decide) ?_
     refine XS.iloadN X3.here hx rfl (hb hby d8_2) rfl ?_
     refine XS.aloadN X3.here hx rfl (hb hby d8_3) rfl rfl ?_
     show Steps p.tables e below (T3.setTop (mkF m 4 #[rv r0, iv 1, iv c0] [(.ref r0), (.int (1 : Int32))])) _
     refine st18.trans ?_
     exact kt
    obtain ⟨fs, hr, hrun, hended, hW, hsame⟩ := X18.leave (v := some (.int (1 : Int32))) (fun h => by rw [Bd.returns] at h; cases h)
    refine ⟨_, _, G19 _ ?_, hrun, hended, _, _, rfl, ?_, ⟨_, rfl⟩, hW, hsame.mono (by decide) (by decide)⟩
    ·skip
     refine XS.icmpYes X18.here hx rfl (pc0 := 7) (pc' := 49) rfl (hb hby d8_7) rfl (flt (by decide)).2.1 (by decide) (by decide) ?_
     refine XS.iconst X18.here hx rfl (hb hby d8_49) ?_
     exact retN X18 hx (t := .boolean) Bd.returns (by simp) (hb hby d8_50) hr
    ·show QrmFVL1 Z r0 c0 ta kb cst fv h0 n0 _ T18.heap _
     rw [eh18]
     exact ⟨by rw [own_fv, if_neg ((own_al c0).1 (by have q0 := hc19_5; have q1 := hc31_15; have q2 := hc38_17; simp only [Int32.lt_iff_toInt_lt, ← Int32.toInt_inj, own_k9, own_k32, own_k127, own_k255] at q0 q1 q2; omega)), own_fv], N18, rfl⟩
def QrmFVU1 (Z : State) (r0 : Addr) (c0 : Int32) (ta : Addr) (kb : ClassId) (cst : Int32) (fv : Value) (h0 : Heap) (n0 : Nat) (v : Option Value) (h : Heap) (L : List Loc) : Prop := v = some (.int (own_fv [c0])) ∧ Fr n0 L ∧ h = h0
theorem ef_rmFVU1 (m : MethodId) (x0 : Addr) : entryFrame m #[(.ref x0)] 3 = mkF m 0 #[.val (.ref x0), .unset, .unset] [] := by first | (simp [entryFrame, mkF, argsToLocals, Value.category]; done) | rfl
set_option maxRecDepth 65536 in
set_option maxHeartbeats 40000000 in
theorem rmFVU1 (l : Launch) (Z : State) (a0 : Array Value) (hw : ∀ d ∈ tables_1, d.before a0 Z = true) (ws : List Jvm.Cond) (r0 : Addr) (c0 : Int32) (ta : Addr) (kb : ClassId) (cst : Int32) (fv : Value) (h0 : Heap) (n0 : Nat) (Z0 : n0 ≤ h0.size) (E0 : Exa Z h0 r0 "java/lang/String") (Fc : Fld Z h0 r0 "java/lang/String" "coder" "B" (.int (1 : Int32))) (Fv : Fld Z h0 r0 "java/lang/String" "value" "[B" (.ref ta)) (V0 : Arv Z h0 ta kb .byte (2 : Int32) [(.int (nar .byte ((c0 >>> ((0 : Int32) &&& 31)).toInt8.toInt32))), (.int (nar .byte ((c0 >>> ((8 : Int32) &&& 31)).toInt8.toInt32)))] (.int (0 : Int32))) (O0 : Old Z n0 h0) (hb0 : 0 ≤ c0.toInt ∧ c0.toInt ≤ 65535) (SS : Sts Z cst fv) :
  MetFree l (⟨"com/example/wary_bearer/warybearer/http/Http1Reader", "isFieldValue", "(Ljava/lang/String;)Z"⟩ : MethodName) (head1 (Jvm.Cond.code (⟨"com/example/wary_bearer/warybearer/http/Http1Reader", "isFieldValue", "(Ljava/lang/String;)Z"⟩ : MethodName) prog_13_method_11_code 3 (some .boolean) :: ws) ({ frames := 5, cells := 0, slots := 0, locals := 66 } : Room)) (fun a U => a = #[(.ref r0)] ∧ Z.Warmed39 U.vm ∧ U.heap = h0) (fun _ _ _ _ _ => True) (fun _ U o U' => ∃ v L, o = .returned v ∧ QrmFVU1 Z r0 c0 ta kb cst fv h0 n0 v U'.heap L ∧ FrameEnd U o U' L ({ frames := 5, cells := 0, slots := 0, locals := 66 } : Room).cells ({ frames := 5, cells := 0, slots := 0, locals := 66 } : Room).slots) := by
 refine MetFree.of_bodySF (plainFor_of_name pnc_com_example_wary_bearer_warybearer_http_Http1Reader) hisR ?_
 intro p e s m args below meth c s₁ Bd hml0 hP hK
 obtain ⟨rfl, hZ, hh⟩ := hP
 have hx := Bd.exec
 have hby := Bd.bytes
 have hml : c.maxLocals = 3 := hml0
 have hown : s.vm.findClass "com/example/wary_bearer/warybearer/http/Http1Reader" = some m.cls := findClass_of_methodNamed Bd.named
 have hnm := (name_of_methodNamed Bd.named Bd.method).1
 have X0 : Stand p l e ({ frames := 5, cells := 0, slots := 0, locals := 66 } : Room) s m #[(.ref r0)] below meth c s₁ [] 0 0 := Stand.of_body Bd
 have e0 : s₁.heap = h0 := by rw [← hh, Bd.state]; rfl
 have N0 := Fr.nil n0
 have kp0 : Keep h0 h0 [] := Keep.refl _ _
 have G0 : ∀ t, Steps p.tables e below (s₁.setTop (mkF m 0 #[rv r0, .unset, .unset] [])) t → Steps p.tables e below (s₁.setTop (entryFrame m #[(.ref r0)] 3)) t := fun t k => castTop (ef_rmFVU1 m r0) k
 obtain ⟨cq1, kq1, q1a, q1b, q1c⟩ := isOf hZ e0 E0
 obtain ⟨_, _, ⟨T1, L1, k1, n1⟩, -, X1, ⟨Lc1, hQ1, l1, y1, z1⟩, st1⟩ := X0.virtualBack hx (y := (⟨"java/lang/String", "length", "()I"⟩ : MethodName)) (z := (⟨"java/lang/String", "length", "()I"⟩ : MethodName)) hown (mvT hZ (hq hw 38 rfl)) (mvT hZ (hq hw 39 rfl)) (notFace_of_selects (args := #[]) (mvT hZ (hq hw 41 rfl))) (mvT hZ (hq hw 41 rfl)) (mvT hZ (hq hw 40 rfl)) (by decide) (backOf (W := 1) (rm9 l Z a0 hw [] r0 (1 : Int32) ta kb (2 : Int32) [(.int (nar .byte ((c0 >>> ((0 : Int32) &&& 31)).toInt8.toInt32))), (.int (nar .byte ((c0 >>> ((8 : Int32) &&& 31)).toInt8.toInt32)))] (1 : Int32) cst fv h0 n0 Z0 E0 Fc Fv V0 O0 (by decide) SS) hZ (hq hw 42 rfl) (hq hw 3 rfl) (by decide) (by decide)) q1a q1c (g := (mkF m 4 #[rv r0, iv 0, .unset] [(.ref r0), (.int (0 : Int32))])) rfl (by rw [hml]; rfl) (Steps.refl _) (argsL := []) (rest := [(.int (0 : Int32))]) (lenOf pd_14 rfl) rfl (by show 2 * 0 + _ ≤ _; exact Nat.le_of_eq rfl) (hb hby d8_4) (fun _ _ => ⟨rfl, e0, (by decide : 0 + 0 ≤ _), (by decide : 0 + 0 ≤ _)⟩)
 dsimp only [Pt.U, Pt.locs, Pt.cells, Pt.slots] at X1 l1 y1 z1 st1 hQ1
 subst l1 y1 z1
 obtain ⟨rfl, N1q, eh1⟩ := hQ1
 have N1 := Fr.app N0 N1q
 have G2 : ∀ t, Steps p.tables e below (T1.setTop (mkF m 7 #[rv r0, iv 0, .unset] [(.int (1 : Int32)), (.int (0 : Int32))])) t → Steps p.tables e below (s₁.setTop (entryFrame m #[(.ref r0)] 3)) t := by
  intro t kt
  refine G0 _ ?_
  refine XS.iconst X0.here hx rfl (hb hby d8_0) ?_
  refine XS.istoreN X0.here hx rfl (hb hby d8_1) rfl (l' := #[rv r0, iv 0, .unset]) rfl ?_
  refine XS.iloadN X0.here hx rfl (hb hby d8_2) rfl ?_
  refine XS.aloadN X0.here hx rfl (hb hby d8_3) rfl rfl ?_
  refine st1.trans ?_
  exact kt
 obtain ⟨cq3, kq3, q3a, q3b, q3c⟩ := isOf hZ eh1 E0
 obtain ⟨_, _, ⟨T3, L3, k3, n3⟩, -, X3, ⟨Lc3, hQ3, l3, y3, z3⟩, st3⟩ := X1.virtualBack hx (y := (⟨"java/lang/String", "charAt", "(I)C"⟩ : MethodName)) (z := (⟨"java/lang/String", "charAt", "(I)C"⟩ : MethodName)) hown (mvT hZ (hq hw 48 rfl)) (mvT hZ (hq hw 49 rfl)) (notFace_of_selects (args := #[]) (mvT hZ (hq hw 51 rfl))) (mvT hZ (hq hw 51 rfl)) (mvT hZ (hq hw 50 rfl)) (by decide) (backOf (W := 0) (rmChU l Z a0 hw [] r0 (0 : Int32) ta kb (2 : Int32) [(.int (nar .byte ((c0 >>> ((0 : Int32) &&& 31)).toInt8.toInt32))), (.int (nar .byte ((c0 >>> ((8 : Int32) &&& 31)).toInt8.toInt32)))] (nar .byte ((c0 >>> ((0 : Int32) &&& 31)).toInt8.toInt32)) (nar .byte ((c0 >>> ((8 : Int32) &&& 31)).toInt8.toInt32)) c0 cst fv h0 n0 Z0 E0 Fc Fv V0 O0 (by decide) (by decide) (by decide) (by decide) rfl rfl (own_utf c0 hb0) SS) hZ (hq hw 52 rfl) (hq hw 3 rfl) (by decide) (by decide)) q3a q3c (g := (mkF m 12 #[rv r0, iv 0, .unset] [(.int (0 : Int32)), (.ref r0)])) rfl (by rw [hml]; rfl) (Steps.refl _) (argsL := [(.int (0 : Int32))]) (rest := []) (lenOf pd_15 rfl) rfl (by show 2 * 0 + _ ≤ _; exact Nat.le_of_eq rfl) (hb hby d8_12) (fun _ _ => ⟨rfl, eh1, (by decide : 0 + 0 ≤ _), (by decide : 0 + 0 ≤ _)⟩)
 dsimp only [Pt.U, Pt.locs, Pt.cells, Pt.slots] at X3 l3 y3 z3 st3 hQ3
 subst l3 y3 z3
 obtain ⟨rfl, N3q, eh3⟩ := hQ3
 have N3 := Fr.app N1 N3q
 have G4 : ∀ t, Steps p.tables e below (T3.setTop (mkF m 19 #[rv r0, iv 0, iv c0] [(.int (32 : Int32)), (.int c0)])) t → Steps p.tables e below (s₁.setTop (entryFrame m #[(.ref r0)] 3)) t := by
  intro t kt
  refine G2 _ ?_
  refine XS.icmpNo X1.here hx rfl (hb hby d8_7) rfl (tlt (by decide)).2.1 ?_
  refine XS.aloadN X1.here hx rfl (hb hby d8_10) rfl rfl ?_
  refine XS.iloadN X1.here hx rfl (hb hby d8_11) rfl ?_
  refine st3.trans ?_
  refine XS.istoreN X3.here hx rfl (hb hby d8_15) rfl (l' := #[rv r0, iv 0, iv c0]) rfl ?_
  refine XS.iloadN X3.here hx rfl (hb hby d8_16) rfl ?_
  refine XS.bipush X3.here hx rfl (hb hby d8_17) ?_
  exact kt
 by_cases hc19_5 : c0 < (32 : Int32)
 ·skip
  have G6 : ∀ t, Steps p.tables e below (T3.setTop (mkF m 25 #[rv r0, iv 0, iv c0] [(.int (9 : Int32)), (.int c0)])) t → Steps p.tables e below (s₁.setTop (entryFrame m #[(.ref r0)] 3)) t := by
   intro t kt
   refine G4 _ ?_
   refine XS.icmpNo X3.here hx rfl (hb hby d8_19) rfl (tlt hc19_5).2.1 ?_
   refine XS.iloadN X3.here hx rfl (hb hby d8_22) rfl ?_
   refine XS.bipush X3.here hx rfl (hb hby d8_23) ?_
   exact kt
  by_cases hc25_7 : c0 = (9 : Int32)
  ·skip
   have G8 : ∀ t, Steps p.tables e below (T3.setTop (mkF m 31 #[rv r0, iv 0, iv c0] [(.int (127 : Int32)), (.int c0)])) t → Steps p.tables e below (s₁.setTop (entryFrame m #[(.ref r0)] 3)) t := by
    intro t kt
    refine G6 _ ?_
    refine XS.icmpNo X3.here hx rfl (hb hby d8_25) rfl (teq hc25_7).2 ?_
    refine XS.iloadN X3.here hx rfl (hb hby d8_28) rfl ?_
    refine XS.bipush X3.here hx rfl (hb hby d8_29) ?_
    exact kt
   by_cases hc31_9 : c0 = (127 : Int32)
   ·skip
    obtain ⟨fs, hr, hrun, hended, hW, hsame⟩ := X3.leave (v := some (.int (0 : Int32))) (fun h => by rw [Bd.returns] at h; cases h)
    refine ⟨_, _, G8 _ ?_, hrun, hended, _, _, rfl, ?_, ⟨_, rfl⟩, hW, hsame.mono (by decide) (by decide)⟩
    ·skip
     refine XS.icmpYes X3.here hx rfl (pc0 := 31) (pc' := 41) rfl (hb hby d8_31) rfl (teq hc31_9).1 (by decide) (by decide) ?_
     refine XS.iconst X3.here hx rfl (hb hby d8_41) ?_
     exact retN X3 hx (t := .boolean) Bd.returns (by simp) (hb hby d8_42) hr
    ·show QrmFVU1 Z r0 c0 ta kb cst fv h0 n0 _ T3.heap _
     rw [eh3]
     exact ⟨by rw [own_fv, if_pos ((own_al c0).2 (by have q0 := hc19_5; have q1 := hc25_7; have q2 := hc31_9; simp only [Int32.lt_iff_toInt_lt, ← Int32.toInt_inj, own_k9, own_k32, own_k127, own_k255] at q0 q1 q2; omega))], N3, rfl⟩
   ·skip
    have G10 : ∀ t, Steps p.tables e below (T3.setTop (mkF m 38 #[rv r0, iv 0, iv c0] [(.int (255 : Int32)), (.int c0)])) t → Steps p.tables e below (s₁.setTop (entryFrame m #[(.ref r0)] 3)) t := by
     intro t kt
     refine G8 _ ?_
     refine XS.icmpNo X3.here hx rfl (hb hby d8_31) rfl (feq hc31_9).1 ?_
     refine XS.iloadN X3.here hx rfl (hb hby d8_34) rfl ?_
     refine XS.sipush X3.here hx rfl (hb hby d8_35) ?_
     exact kt
    by_cases hc38_11 : (255 : Int32) < c0
    ·skip
     obtain ⟨fs, hr, hrun, hended, hW, hsame⟩ := X3.leave (v := some (.int (0 : Int32))) (fun h => by rw [Bd.returns] at h; cases h)
     refine ⟨_, _, G10 _ ?_, hrun, hended, _, _, rfl, ?_, ⟨_, rfl⟩, hW, hsame.mono (by decide) (by decide)⟩
     ·skip
      refine XS.icmpNo X3.here hx rfl (hb hby d8_38) rfl (tlt hc38_11).2.2.2 ?_
      refine XS.iconst X3.here hx rfl (hb hby d8_41) ?_
      exact retN X3 hx (t := .boolean) Bd.returns (by simp) (hb hby d8_42) hr
     ·show QrmFVU1 Z r0 c0 ta kb cst fv h0 n0 _ T3.heap _
      rw [eh3]
      exact ⟨by rw [own_fv, if_pos ((own_al c0).2 (by have q0 := hc19_5; have q1 := hc25_7; have q2 := hc31_9; have q3 := hc38_11; simp only [Int32.lt_iff_toInt_lt, ← Int32.toInt_inj, own_k9, own_k32, own_k127, own_k255] at q0 q1 q2 q3; omega))], N3, rfl⟩
    ·skip
     obtain ⟨cq12, kq12, q12a, q12b, q12c⟩ := isOf hZ eh3 E0
     obtain ⟨_, _, ⟨T12, L12, k12, n12⟩, -, X12, ⟨Lc12, hQ12, l12, y12, z12⟩, st12⟩ := X3.virtualBack hx (y := (⟨"java/lang/String", "length", "()I"⟩ : MethodName)) (z := (⟨"java/lang/String", "length", "()I"⟩ : MethodName)) hown (mvT hZ (hq hw 38 rfl)) (mvT hZ (hq hw 39 rfl)) (notFace_of_selects (args := #[]) (mvT hZ (hq hw 41 rfl))) (mvT hZ (hq hw 41 rfl)) (mvT hZ (hq hw 40 rfl)) (by decide) (backOf (W := 1) (rm9 l Z a0 hw [] r0 (1 : Int32) ta kb (2 : Int32) [(.int (nar .byte ((c0 >>> ((0 : Int32) &&& 31)).toInt8.toInt32))), (.int (nar .byte ((c0 >>> ((8 : Int32) &&& 31)).toInt8.toInt32)))] (1 : Int32) cst fv h0 n0 Z0 E0 Fc Fv V0 O0 (by decide) SS) hZ (hq hw 42 rfl) (hq hw 3 rfl) (by decide) (by decide)) q12a q12c (g := (mkF m 4 #[rv r0, iv 1, iv c0] [(.ref r0), (.int (1 : Int32))])) rfl (by rw [hml]; rfl) (Steps.refl _) (argsL := []) (rest := [(.int (1 : Int32))]) (lenOf pd_14 rfl) rfl (by show 2 * 0 + _ ≤ _; exact Nat.le_of_eq rfl) (hb hby d8_4) (fun _ _ => ⟨rfl, eh3, (by decide : 0 + 0 ≤ _), (by decide : 0 + 0 ≤ _)⟩)
     dsimp only [Pt.U, Pt.locs, Pt.cells, Pt.slots] at X12 l12 y12 z12 st12 hQ12
     subst l12 y12 z12
     obtain ⟨rfl, N12q, eh12⟩ := hQ12
     have N12 := Fr.app N3 N12q
     have G13 : ∀ t, Steps p.tables e below (T12.setTop (mkF m 7 #[rv r0, iv 1, iv c0] [(.int (1 : Int32)), (.int (1 : Int32))])) t → Steps p.tables e below (s₁.setTop (entryFrame m #[(.ref r0)] 3)) t := by
      intro t kt
      refine G10 _ ?_
      refine XS.icmpYes X3.here hx rfl (pc0 := 38) (pc' := 43) rfl (hb hby d8_38) rfl (flt hc38_11).2.2.2 (by decide) (by decide) ?_
      refine XS.iinc X3.here hx rfl (hb hby d8_43) rfl (l' := #[rv r0, iv 1, iv c0]) rfl ?_
      refine XS.goto X3.here hx rfl (pc0 := 46) (pc' := 2) rfl (hb hby d8_46) (by decide) (by decide) ?_
      show Steps p.tables e below (T3.setTop (mkF m 2 #[rv r0, iv 1, iv c0] [])) _
      refine XS.iloadN X3.here hx rfl (hb hby d8_2) rfl ?_
      refine XS.aloadN X3.here hx rfl (hb hby d8_3) rfl rfl ?_
      refine st12.trans ?_
      exact kt
     obtain ⟨fs, hr, hrun, hended, hW, hsame⟩ := X12.leave (v := some (.int (1 : Int32))) (fun h => by rw [Bd.returns] at h; cases h)
     refine ⟨_, _, G13 _ ?_, hrun, hended, _, _, rfl, ?_, ⟨_, rfl⟩, hW, hsame.mono (by decide) (by decide)⟩
     ·skip
      refine XS.icmpYes X12.here hx rfl (pc0 := 7) (pc' := 49) rfl (hb hby d8_7) rfl (flt (by decide)).2.1 (by decide) (by decide) ?_
      refine XS.iconst X12.here hx rfl (hb hby d8_49) ?_
      exact retN X12 hx (t := .boolean) Bd.returns (by simp) (hb hby d8_50) hr
     ·show QrmFVU1 Z r0 c0 ta kb cst fv h0 n0 _ T12.heap _
      rw [eh12]
      exact ⟨by rw [own_fv, if_neg ((own_al c0).1 (by have q0 := hc19_5; have q1 := hc25_7; have q2 := hc31_9; have q3 := hc38_11; simp only [Int32.lt_iff_toInt_lt, ← Int32.toInt_inj, own_k9, own_k32, own_k127, own_k255] at q0 q1 q2 q3; omega)), own_fv], N12, rfl⟩
  ·skip
   obtain ⟨fs, hr, hrun, hended, hW, hsame⟩ := X3.leave (v := some (.int (0 : Int32))) (fun h => by rw [Bd.returns] at h; cases h)
   refine ⟨_, _, G6 _ ?_, hrun, hended, _, _, rfl, ?_, ⟨_, rfl⟩, hW, hsame.mono (by decide) (by decide)⟩
   ·skip
    refine XS.icmpYes X3.here hx rfl (pc0 := 25) (pc' := 41) rfl (hb hby d8_25) rfl (feq hc25_7).2 (by decide) (by decide) ?_
    refine XS.iconst X3.here hx rfl (hb hby d8_41) ?_
    exact retN X3 hx (t := .boolean) Bd.returns (by simp) (hb hby d8_42) hr
   ·show QrmFVU1 Z r0 c0 ta kb cst fv h0 n0 _ T3.heap _
    rw [eh3]
    exact ⟨by rw [own_fv, if_pos ((own_al c0).2 (by have q0 := hc19_5; have q1 := hc25_7; simp only [Int32.lt_iff_toInt_lt, ← Int32.toInt_inj, own_k9, own_k32, own_k127, own_k255] at q0 q1; omega))], N3, rfl⟩
 ·skip
  have G14 : ∀ t, Steps p.tables e below (T3.setTop (mkF m 31 #[rv r0, iv 0, iv c0] [(.int (127 : Int32)), (.int c0)])) t → Steps p.tables e below (s₁.setTop (entryFrame m #[(.ref r0)] 3)) t := by
   intro t kt
   refine G4 _ ?_
   refine XS.icmpYes X3.here hx rfl (pc0 := 19) (pc' := 28) rfl (hb hby d8_19) rfl (flt hc19_5).2.1 (by decide) (by decide) ?_
   refine XS.iloadN X3.here hx rfl (hb hby d8_28) rfl ?_
   refine XS.bipush X3.here hx rfl (hb hby d8_29) ?_
   exact kt
  by_cases hc31_15 : c0 = (127 : Int32)
  ·skip
   obtain ⟨fs, hr, hrun, hended, hW, hsame⟩ := X3.leave (v := some (.int (0 : Int32))) (fun h => by rw [Bd.returns] at h; cases h)
   refine ⟨_, _, G14 _ ?_, hrun, hended, _, _, rfl, ?_, ⟨_, rfl⟩, hW, hsame.mono (by decide) (by decide)⟩
   ·skip
    refine XS.icmpYes X3.here hx rfl (pc0 := 31) (pc' := 41) rfl (hb hby d8_31) rfl (teq hc31_15).1 (by decide) (by decide) ?_
    refine XS.iconst X3.here hx rfl (hb hby d8_41) ?_
    exact retN X3 hx (t := .boolean) Bd.returns (by simp) (hb hby d8_42) hr
   ·show QrmFVU1 Z r0 c0 ta kb cst fv h0 n0 _ T3.heap _
    rw [eh3]
    exact ⟨by rw [own_fv, if_pos ((own_al c0).2 (by have q0 := hc19_5; have q1 := hc31_15; simp only [Int32.lt_iff_toInt_lt, ← Int32.toInt_inj, own_k9, own_k32, own_k127, own_k255] at q0 q1; omega))], N3, rfl⟩
  ·skip
   have G16 : ∀ t, Steps p.tables e below (T3.setTop (mkF m 38 #[rv r0, iv 0, iv c0] [(.int (255 : Int32)), (.int c0)])) t → Steps p.tables e below (s₁.setTop (entryFrame m #[(.ref r0)] 3)) t := by
    intro t kt
    refine G14 _ ?_
    refine XS.icmpNo X3.here hx rfl (hb hby d8_31) rfl (feq hc31_15).1 ?_
    refine XS.iloadN X3.here hx rfl (hb hby d8_34) rfl ?_
    refine XS.sipush X3.here hx rfl (hb hby d8_35) ?_
    exact kt
   by_cases hc38_17 : (255 : Int32) < c0
   ·skip
    obtain ⟨fs, hr, hrun, hended, hW, hsame⟩ := X3.leave (v := some (.int (0 : Int32))) (fun h => by rw [Bd.returns] at h; cases h)
    refine ⟨_, _, G16 _ ?_, hrun, hended, _, _, rfl, ?_, ⟨_, rfl⟩, hW, hsame.mono (by decide) (by decide)⟩
    ·skip
     refine XS.icmpNo X3.here hx rfl (hb hby d8_38) rfl (tlt hc38_17).2.2.2 ?_
     refine XS.iconst X3.here hx rfl (hb hby d8_41) ?_
     exact retN X3 hx (t := .boolean) Bd.returns (by simp) (hb hby d8_42) hr
    ·show QrmFVU1 Z r0 c0 ta kb cst fv h0 n0 _ T3.heap _
     rw [eh3]
     exact ⟨by rw [own_fv, if_pos ((own_al c0).2 (by have q0 := hc19_5; have q1 := hc31_15; have q2 := hc38_17; simp only [Int32.lt_iff_toInt_lt, ← Int32.toInt_inj, own_k9, own_k32, own_k127, own_k255] at q0 q1 q2; omega))], N3, rfl⟩
   ·skip
    obtain ⟨cq18, kq18, q18a, q18b, q18c⟩ := isOf hZ eh3 E0
    obtain ⟨_, _, ⟨T18, L18, k18, n18⟩, -, X18, ⟨Lc18, hQ18, l18, y18, z18⟩, st18⟩ := X3.virtualBack hx (y := (⟨"java/lang/String", "length", "()I"⟩ : MethodName)) (z := (⟨"java/lang/String", "length", "()I"⟩ : MethodName)) hown (mvT hZ (hq hw 38 rfl)) (mvT hZ (hq hw 39 rfl)) (notFace_of_selects (args := #[]) (mvT hZ (hq hw 41 rfl))) (mvT hZ (hq hw 41 rfl)) (mvT hZ (hq hw 40 rfl)) (by decide) (backOf (W := 1) (rm9 l Z a0 hw [] r0 (1 : Int32) ta kb (2 : Int32) [(.int (nar .byte ((c0 >>> ((0 : Int32) &&& 31)).toInt8.toInt32))), (.int (nar .byte ((c0 >>> ((8 : Int32) &&& 31)).toInt8.toInt32)))] (1 : Int32) cst fv h0 n0 Z0 E0 Fc Fv V0 O0 (by decide) SS) hZ (hq hw 42 rfl) (hq hw 3 rfl) (by decide) (by decide)) q18a q18c (g := (mkF m 4 #[rv r0, iv 1, iv c0] [(.ref r0), (.int (1 : Int32))])) rfl (by rw [hml]; rfl) (Steps.refl _) (argsL := []) (rest := [(.int (1 : Int32))]) (lenOf pd_14 rfl) rfl (by show 2 * 0 + _ ≤ _; exact Nat.le_of_eq rfl) (hb hby d8_4) (fun _ _ => ⟨rfl, eh3, (by decide : 0 + 0 ≤ _), (by decide : 0 + 0 ≤ _)⟩)
    dsimp only [Pt.U, Pt.locs, Pt.cells, Pt.slots] at X18 l18 y18 z18 st18 hQ18
    subst l18 y18 z18
    obtain ⟨rfl, N18q, eh18⟩ := hQ18
    have N18 := Fr.app N3 N18q
    have G19 : ∀ t, Steps p.tables e below (T18.setTop (mkF m 7 #[rv r0, iv 1, iv c0] [(.int (1 : Int32)), (.int (1 : Int32))])) t → Steps p.tables e below (s₁.setTop (entryFrame m #[(.ref r0)] 3)) t := by
     intro t kt
     refine G16 _ ?_
     refine XS.icmpYes X3.here hx rfl (pc0 := 38) (pc' := 43) rfl (hb hby d8_38) rfl (flt hc38_17).2.2.2 (by decide) (by decide) ?_
     refine XS.iinc X3.here hx rfl (hb hby d8_43) rfl (l' := #[rv r0, iv 1, iv c0]) rfl ?_
     refine XS.goto X3.here hx rfl (pc0 := 46) (pc' := 2) rfl (hb hby d8_46) (by decide) (by decide) ?_
     refine XS.iloadN X3.here hx rfl (hb hby d8_2) rfl ?_
     refine XS.aloadN X3.here hx rfl (hb hby d8_3) rfl rfl ?_
     show Steps p.tables e below (T3.setTop (mkF m 4 #[rv r0, iv 1, iv c0] [(.ref r0), (.int (1 : Int32))])) _
     refine st18.trans ?_
     exact kt
    obtain ⟨fs, hr, hrun, hended, hW, hsame⟩ := X18.leave (v := some (.int (1 : Int32))) (fun h => by rw [Bd.returns] at h; cases h)
    refine ⟨_, _, G19 _ ?_, hrun, hended, _, _, rfl, ?_, ⟨_, rfl⟩, hW, hsame.mono (by decide) (by decide)⟩
    ·skip
     refine XS.icmpYes X18.here hx rfl (pc0 := 7) (pc' := 49) rfl (hb hby d8_7) rfl (flt (by decide)).2.1 (by decide) (by decide) ?_
     refine XS.iconst X18.here hx rfl (hb hby d8_49) ?_
     exact retN X18 hx (t := .boolean) Bd.returns (by simp) (hb hby d8_50) hr
    ·show QrmFVU1 Z r0 c0 ta kb cst fv h0 n0 _ T18.heap _
     rw [eh18]
     exact ⟨by rw [own_fv, if_neg ((own_al c0).1 (by have q0 := hc19_5; have q1 := hc31_15; have q2 := hc38_17; simp only [Int32.lt_iff_toInt_lt, ← Int32.toInt_inj, own_k9, own_k32, own_k127, own_k255] at q0 q1 q2; omega)), own_fv], N18, rfl⟩
def QrmFVL2 (Z : State) (r0 : Addr) (c0 c1 : Int32) (ta : Addr) (kb : ClassId) (cst : Int32) (fv : Value) (h0 : Heap) (n0 : Nat) (v : Option Value) (h : Heap) (L : List Loc) : Prop := v = some (.int (own_fv [c0, c1])) ∧ Fr n0 L ∧ h = h0
theorem ef_rmFVL2 (m : MethodId) (x0 : Addr) : entryFrame m #[(.ref x0)] 3 = mkF m 0 #[.val (.ref x0), .unset, .unset] [] := by first | (simp [entryFrame, mkF, argsToLocals, Value.category]; done) | rfl
set_option maxRecDepth 65536 in
set_option maxHeartbeats 40000000 in
theorem rmFVL2 (l : Launch) (Z : State) (a0 : Array Value) (hw : ∀ d ∈ tables_1, d.before a0 Z = true) (ws : List Jvm.Cond) (r0 : Addr) (c0 c1 : Int32) (ta : Addr) (kb : ClassId) (cst : Int32) (fv : Value) (h0 : Heap) (n0 : Nat) (Z0 : n0 ≤ h0.size) (E0 : Exa Z h0 r0 "java/lang/String") (Fc : Fld Z h0 r0 "java/lang/String" "coder" "B" (.int (0 : Int32))) (Fv : Fld Z h0 r0 "java/lang/String" "value" "[B" (.ref ta)) (V0 : Arv Z h0 ta kb .byte (2 : Int32) [(.int (nar .byte (c0.toInt8.toInt32))), (.int (nar .byte (c1.toInt8.toInt32)))] (.int (0 : Int32))) (O0 : Old Z n0 h0) (hb0 : 0 ≤ c0.toInt ∧ c0.toInt ≤ 65535) (hb1 : 0 ≤ c1.toInt ∧ c1.toInt ≤ 65535) (hl0 : ¬ ((255 : Int32) < c0)) (hl1 : ¬ ((255 : Int32) < c1)) (SS : Sts Z cst fv) :
  MetFree l (⟨"com/example/wary_bearer/warybearer/http/Http1Reader", "isFieldValue", "(Ljava/lang/String;)Z"⟩ : MethodName) (head1 (Jvm.Cond.code (⟨"com/example/wary_bearer/warybearer/http/Http1Reader", "isFieldValue", "(Ljava/lang/String;)Z"⟩ : MethodName) prog_13_method_11_code 3 (some .boolean) :: ws) ({ frames := 5, cells := 0, slots := 0, locals := 66 } : Room)) (fun a U => a = #[(.ref r0)] ∧ Z.Warmed39 U.vm ∧ U.heap = h0) (fun _ _ _ _ _ => True) (fun _ U o U' => ∃ v L, o = .returned v ∧ QrmFVL2 Z r0 c0 c1 ta kb cst fv h0 n0 v U'.heap L ∧ FrameEnd U o U' L ({ frames := 5, cells := 0, slots := 0, locals := 66 } : Room).cells ({ frames := 5, cells := 0, slots := 0, locals := 66 } : Room).slots) := by
 refine MetFree.of_bodySF (plainFor_of_name pnc_com_example_wary_bearer_warybearer_http_Http1Reader) hisR ?_
 intro p e s m args below meth c s₁ Bd hml0 hP hK
 obtain ⟨rfl, hZ, hh⟩ := hP
 have hx := Bd.exec
 have hby := Bd.bytes
 have hml : c.maxLocals = 3 := hml0
 have hown : s.vm.findClass "com/example/wary_bearer/warybearer/http/Http1Reader" = some m.cls := findClass_of_methodNamed Bd.named
 have hnm := (name_of_methodNamed Bd.named Bd.method).1
 have X0 : Stand p l e ({ frames := 5, cells := 0, slots := 0, locals := 66 } : Room) s m #[(.ref r0)] below meth c s₁ [] 0 0 := Stand.of_body Bd
 have e0 : s₁.heap = h0 := by rw [← hh, Bd.state]; rfl
 have N0 := Fr.nil n0
 have kp0 : Keep h0 h0 [] := Keep.refl _ _
 have G0 : ∀ t, Steps p.tables e below (s₁.setTop (mkF m 0 #[rv r0, .unset, .unset] [])) t → Steps p.tables e below (s₁.setTop (entryFrame m #[(.ref r0)] 3)) t := fun t k => castTop (ef_rmFVL2 m r0) k
 obtain ⟨cq1, kq1, q1a, q1b, q1c⟩ := isOf hZ e0 E0
 obtain ⟨_, _, ⟨T1, L1, k1, n1⟩, -, X1, ⟨Lc1, hQ1, l1, y1, z1⟩, st1⟩ := X0.virtualBack hx (y := (⟨"java/lang/String", "length", "()I"⟩ : MethodName)) (z := (⟨"java/lang/String", "length", "()I"⟩ : MethodName)) hown (mvT hZ (hq hw 38 rfl)) (mvT hZ (hq hw 39 rfl)) (notFace_of_selects (args := #[]) (mvT hZ (hq hw 41 rfl))) (mvT hZ (hq hw 41 rfl)) (mvT hZ (hq hw 40 rfl)) (by decide) (backOf (W := 1) (rm9 l Z a0 hw [] r0 (0 : Int32) ta kb (2 : Int32) [(.int (nar .byte (c0.toInt8.toInt32))), (.int (nar .byte (c1.toInt8.toInt32)))] (2 : Int32) cst fv h0 n0 Z0 E0 Fc Fv V0 O0 (by decide) SS) hZ (hq hw 42 rfl) (hq hw 3 rfl) (by decide) (by decide)) q1a q1c (g := (mkF m 4 #[rv r0, iv 0, .unset] [(.ref r0), (.int (0 : Int32))])) rfl (by rw [hml]; rfl) (Steps.refl _) (argsL := []) (rest := [(.int (0 : Int32))]) (lenOf pd_14 rfl) rfl (by show 2 * 0 + _ ≤ _; exact Nat.le_of_eq rfl) (hb hby d8_4) (fun _ _ => ⟨rfl, e0, (by decide : 0 + 0 ≤ _), (by decide : 0 + 0 ≤ _)⟩)
 dsimp only [Pt.U, Pt.locs, Pt.cells, Pt.slots] at X1 l1 y1 z1 st1 hQ1
 subst l1 y1 z1
 obtain ⟨rfl, N1q, eh1⟩ := hQ1
 have N1 := Fr.app N0 N1q
 have G2 : ∀ t, Steps p.tables e below (T1.setTop (mkF m 7 #[rv r0, iv 0, .unset] [(.int (2 : Int32)), (.int (0 : Int32))])) t → Steps p.tables e below (s₁.setTop (entryFrame m #[(.ref r0)] 3)) t := by
  intro t kt
  refine G0 _ ?_
  refine XS.iconst X0.here hx rfl (hb hby d8_0) ?_
  refine XS.istoreN X0.here hx rfl (hb hby d8_1) rfl (l' := #[rv r0, iv 0, .unset]) rfl ?_
  refine XS.iloadN X0.here hx rfl (hb hby d8_2) rfl ?_
  refine XS.aloadN X0.here hx rfl (hb hby d8_3) rfl rfl ?_
  refine st1.trans ?_
  exact kt
 obtain ⟨cq3, kq3, q3a, q3b, q3c⟩ := isOf hZ eh1 E0
 obtain ⟨_, _, ⟨T3, L3, k3, n3⟩, -, X3, ⟨Lc3, hQ3, l3, y3, z3⟩, st3⟩ := X1.virtualBack hx (y := (⟨"java/lang/String", "charAt", "(I)C"⟩ : MethodName)) (z := (⟨"java/lang/String", "charAt", "(I)C"⟩ : MethodName)) hown (mvT hZ (hq hw 48 rfl)) (mvT hZ (hq hw 49 rfl)) (notFace_of_selects (args := #[]) (mvT hZ (hq hw 51 rfl))) (mvT hZ (hq hw 51 rfl)) (mvT hZ (hq hw 50 rfl)) (by decide) (backOf (W := 0) (rmChL l Z a0 hw [] r0 (0 : Int32) ta kb (2 : Int32) [(.int (nar .byte (c0.toInt8.toInt32))), (.int (nar .byte (c1.toInt8.toInt32)))] (nar .byte (c0.toInt8.toInt32)) c0 cst fv h0 n0 Z0 E0 Fc Fv V0 O0 (by decide) (by decide) rfl (own_lat c0 hb0 hl0) SS) hZ (hq hw 52 rfl) (hq hw 3 rfl) (by decide) (by decide)) q3a q3c (g := (mkF m 12 #[rv r0, iv 0, .unset] [(.int (0 : Int32)), (.ref r0)])) rfl (by rw [hml]; rfl) (Steps.refl _) (argsL := [(.int (0 : Int32))]) (rest := []) (lenOf pd_15 rfl) rfl (by show 2 * 0 + _ ≤ _; exact Nat.le_of_eq rfl) (hb hby d8_12) (fun _ _ => ⟨rfl, eh1, (by decide : 0 + 0 ≤ _), (by decide : 0 + 0 ≤ _)⟩)
 dsimp only [Pt.U, Pt.locs, Pt.cells, Pt.slots] at X3 l3 y3 z3 st3 hQ3
 subst l3 y3 z3
 obtain ⟨rfl, N3q, eh3⟩ := hQ3
 have N3 := Fr.app N1 N3q
 have G4 : ∀ t, Steps p.tables e below (T3.setTop (mkF m 19 #[rv r0, iv 0, iv c0] [(.int (32 : Int32)), (.int c0)])) t → Steps p.tables e below (s₁.setTop (entryFrame m #[(.ref r0)] 3)) t := by
  intro t kt
  refine G2 _ ?_
  refine XS.icmpNo X1.here hx rfl (hb hby d8_7) rfl (tlt (by decide)).2.1 ?_
  refine XS.aloadN X1.here hx rfl (hb hby d8_10) rfl rfl ?_
  refine XS.iloadN X1.here hx rfl (hb hby d8_11) rfl ?_
  refine st3.trans ?_
  refine XS.istoreN X3.here hx rfl (hb hby d8_15) rfl (l' := #[rv r0, iv 0, iv c0]) rfl ?_
  refine XS.iloadN X3.here hx rfl (hb hby d8_16) rfl ?_
  refine XS.bipush X3.here hx rfl (hb hby d8_17) ?_
  exact kt
 by_cases hc19_5 : c0 < (32 : Int32)
 ·skip
  have G6 : ∀ t, Steps p.tables e below (T3.setTop (mkF m 25 #[rv r0, iv 0, iv c0] [(.int (9 : Int32)), (.int c0)])) t → Steps p.tables e below (s₁.setTop (entryFrame m #[(.ref r0)] 3)) t := by
   intro t kt
   refine G4 _ ?_
   refine XS.icmpNo X3.here hx rfl (hb hby d8_19) rfl (tlt hc19_5).2.1 ?_
   refine XS.iloadN X3.here hx rfl (hb hby d8_22) rfl ?_
   refine XS.bipush X3.here hx rfl (hb hby d8_23) ?_
   exact kt
  by_cases hc25_7 : c0 = (9 : Int32)
  ·skip
   have G8 : ∀ t, Steps p.tables e below (T3.setTop (mkF m 31 #[rv r0, iv 0, iv c0] [(.int (127 : Int32)), (.int c0)])) t → Steps p.tables e below (s₁.setTop (entryFrame m #[(.ref r0)] 3)) t := by
    intro t kt
    refine G6 _ ?_
    refine XS.icmpNo X3.here hx rfl (hb hby d8_25) rfl (teq hc25_7).2 ?_
    refine XS.iloadN X3.here hx rfl (hb hby d8_28) rfl ?_
    refine XS.bipush X3.here hx rfl (hb hby d8_29) ?_
    exact kt
   by_cases hc31_9 : c0 = (127 : Int32)
   ·skip
    obtain ⟨fs, hr, hrun, hended, hW, hsame⟩ := X3.leave (v := some (.int (0 : Int32))) (fun h => by rw [Bd.returns] at h; cases h)
    refine ⟨_, _, G8 _ ?_, hrun, hended, _, _, rfl, ?_, ⟨_, rfl⟩, hW, hsame.mono (by decide) (by decide)⟩
    ·skip
     refine XS.icmpYes X3.here hx rfl (pc0 := 31) (pc' := 41) rfl (hb hby d8_31) rfl (teq hc31_9).1 (by decide) (by decide) ?_
     refine XS.iconst X3.here hx rfl (hb hby d8_41) ?_
     exact retN X3 hx (t := .boolean) Bd.returns (by simp) (hb hby d8_42) hr
    ·show QrmFVL2 Z r0 c0 c1 ta kb cst fv h0 n0 _ T3.heap _
     rw [eh3]
     exact ⟨by rw [own_fv, if_pos ((own_al c0).2 (by have q0 := hc19_5; have q1 := hc25_7; have q2 := hc31_9; simp only [Int32.lt_iff_toInt_lt, ← Int32.toInt_inj, own_k9, own_k32, own_k127, own_k255] at q0 q1 q2; omega))], N3, rfl⟩
   ·skip
    have G10 : ∀ t, Steps p.tables e below (T3.setTop (mkF m 38 #[rv r0, iv 0, iv c0] [(.int (255 : Int32)), (.int c0)])) t → Steps p.tables e below (s₁.setTop (entryFrame m #[(.ref r0)] 3)) t := by
     intro t kt
     refine G8 _ ?_
     refine XS.icmpNo X3.here hx rfl (hb hby d8_31) rfl (feq hc31_9).1 ?_
     refine XS.iloadN X3.here hx rfl (hb hby d8_34) rfl ?_
     refine XS.sipush X3.here hx rfl (hb hby d8_35) ?_
     exact kt
    by_cases hc38_11 : (255 : Int32) < c0
    ·skip
     obtain ⟨fs, hr, hrun, hended, hW, hsame⟩ := X3.leave (v := some (.int (0 : Int32))) (fun h => by rw [Bd.returns] at h; cases h)
     refine ⟨_, _, G10 _ ?_, hrun, hended, _, _, rfl, ?_, ⟨_, rfl⟩, hW, hsame.mono (by decide) (by decide)⟩
     ·skip
      refine XS.icmpNo X3.here hx rfl (hb hby d8_38) rfl (tlt hc38_11).2.2.2 ?_
      refine XS.iconst X3.here hx rfl (hb hby d8_41) ?_
      exact retN X3 hx (t := .boolean) Bd.returns (by simp) (hb hby d8_42) hr
     ·show QrmFVL2 Z r0 c0 c1 ta kb cst fv h0 n0 _ T3.heap _
      rw [eh3]
      exact ⟨by rw [own_fv, if_pos ((own_al c0).2 (by have q0 := hc19_5; have q1 := hc25_7; have q2 := hc31_9; have q3 := hc38_11; simp only [Int32.lt_iff_toInt_lt, ← Int32.toInt_inj, own_k9, own_k32, own_k127, own_k255] at q0 q1 q2 q3; omega))], N3, rfl⟩
    ·skip
     obtain ⟨cq12, kq12, q12a, q12b, q12c⟩ := isOf hZ eh3 E0
     obtain ⟨_, _, ⟨T12, L12, k12, n12⟩, -, X12, ⟨Lc12, hQ12, l12, y12, z12⟩, st12⟩ := X3.virtualBack hx (y := (⟨"java/lang/String", "length", "()I"⟩ : MethodName)) (z := (⟨"java/lang/String", "length", "()I"⟩ : MethodName)) hown (mvT hZ (hq hw 38 rfl)) (mvT hZ (hq hw 39 rfl)) (notFace_of_selects (args := #[]) (mvT hZ (hq hw 41 rfl))) (mvT hZ (hq hw 41 rfl)) (mvT hZ (hq hw 40 rfl)) (by decide) (backOf (W := 1) (rm9 l Z a0 hw [] r0 (0 : Int32) ta kb (2 : Int32) [(.int (nar .byte (c0.toInt8.toInt32))), (.int (nar .byte (c1.toInt8.toInt32)))] (2 : Int32) cst fv h0 n0 Z0 E0 Fc Fv V0 O0 (by decide) SS) hZ (hq hw 42 rfl) (hq hw 3 rfl) (by decide) (by decide)) q12a q12c (g := (mkF m 4 #[rv r0, iv 1, iv c0] [(.ref r0), (.int (1 : Int32))])) rfl (by rw [hml]; rfl) (Steps.refl _) (argsL := []) (rest := [(.int (1 : Int32))]) (lenOf pd_14 rfl) rfl (by show 2 * 0 + _ ≤ _; exact Nat.le_of_eq rfl) (hb hby d8_4) (fun _ _ => ⟨rfl, eh3, (by decide : 0 + 0 ≤ _), (by decide : 0 + 0 ≤ _)⟩)
     dsimp only [Pt.U, Pt.locs, Pt.cells, Pt.slots] at X12 l12 y12 z12 st12 hQ12
     subst l12 y12 z12
     obtain ⟨rfl, N12q, eh12⟩ := hQ12
     have N12 := Fr.app N3 N12q
     have G13 : ∀ t, Steps p.tables e below (T12.setTop (mkF m 7 #[rv r0, iv 1, iv c0] [(.int (2 : Int32)), (.int (1 : Int32))])) t → Steps p.tables e below (s₁.setTop (entryFrame m #[(.ref r0)] 3)) t := by
      intro t kt
      refine G10 _ ?_
      refine XS.icmpYes X3.here hx rfl (pc0 := 38) (pc' := 43) rfl (hb hby d8_38) rfl (flt hc38_11).2.2.2 (by decide) (by decide) ?_
      refine XS.iinc X3.here hx rfl (hb hby d8_43) rfl (l' := #[rv r0, iv 1, iv c0]) rfl ?_
      refine XS.goto X3.here hx rfl (pc0 := 46) (pc' := 2) rfl (hb hby d8_46) (by decide) (by decide) ?_
      show Steps p.tables e below (T3.setTop (mkF m 2 #[rv r0, iv 1, iv c0] [])) _
      refine XS.iloadN X3.here hx rfl (hb hby d8_2) rfl ?_
      refine XS.aloadN X3.here hx rfl (hb hby d8_3) rfl rfl ?_
      refine st12.trans ?_
      exact kt
     obtain ⟨cq14, kq14, q14a, q14b, q14c⟩ := isOf hZ eh12 E0
     obtain ⟨_, _, ⟨T14, L14, k14, n14⟩, -, X14, ⟨Lc14, hQ14, l14, y14, z14⟩, st14⟩ := X12.virtualBack hx (y := (⟨"java/lang/String", "charAt", "(I)C"⟩ : MethodName)) (z := (⟨"java/lang/String", "charAt", "(I)C"⟩ : MethodName)) hown (mvT hZ (hq hw 48 rfl)) (mvT hZ (hq hw 49 rfl)) (notFace_of_selects (args := #[]) (mvT hZ (hq hw 51 rfl))) (mvT hZ (hq hw 51 rfl)) (mvT hZ (hq hw 50 rfl)) (by decide) (backOf (W := 0) (rmChL l Z a0 hw [] r0 (1 : Int32) ta kb (2 : Int32) [(.int (nar .byte (c0.toInt8.toInt32))), (.int (nar .byte (c1.toInt8.toInt32)))] (nar .byte (c1.toInt8.toInt32)) c1 cst fv h0 n0 Z0 E0 Fc Fv V0 O0 (by decide) (by decide) rfl (own_lat c1 hb1 hl1) SS) hZ (hq hw 52 rfl) (hq hw 3 rfl) (by decide) (by decide)) q14a q14c (g := (mkF m 12 #[rv r0, iv 1, iv c0] [(.int (1 : Int32)), (.ref r0)])) rfl (by rw [hml]; rfl) (Steps.refl _) (argsL := [(.int (1 : Int32))]) (rest := []) (lenOf pd_15 rfl) rfl (by show 2 * 0 + _ ≤ _; exact Nat.le_of_eq rfl) (hb hby d8_12) (fun _ _ => ⟨rfl, eh12, (by decide : 0 + 0 ≤ _), (by decide : 0 + 0 ≤ _)⟩)
     dsimp only [Pt.U, Pt.locs, Pt.cells, Pt.slots] at X14 l14 y14 z14 st14 hQ14
     subst l14 y14 z14
     obtain ⟨rfl, N14q, eh14⟩ := hQ14
     have N14 := Fr.app N12 N14q
     have G15 : ∀ t, Steps p.tables e below (T14.setTop (mkF m 19 #[rv r0, iv 1, iv c1] [(.int (32 : Int32)), (.int c1)])) t → Steps p.tables e below (s₁.setTop (entryFrame m #[(.ref r0)] 3)) t := by
      intro t kt
      refine G13 _ ?_
      refine XS.icmpNo X12.here hx rfl (hb hby d8_7) rfl (tlt (by decide)).2.1 ?_
      refine XS.aloadN X12.here hx rfl (hb hby d8_10) rfl rfl ?_
      refine XS.iloadN X12.here hx rfl (hb hby d8_11) rfl ?_
      refine st14.trans ?_
      refine XS.istoreN X14.here hx rfl (hb hby d8_15) rfl (l' := #[rv r0, iv 1, iv c1]) rfl ?_
      refine XS.iloadN X14.here hx rfl (hb hby d8_16) rfl ?_
      refine XS.bipush X14.here hx rfl (hb hby d8_17) ?_
      exact kt
     by_cases hc19_16 : c1 < (32 : Int32)
     ·skip
      have G17 : ∀ t, Steps p.tables e below (T14.setTop (mkF m 25 #[rv r0, iv 1, iv c1] [(.int (9 : Int32)), (.int c1)])) t → Steps p.tables e below (s₁.setTop (entryFrame m #[(.ref r0)] 3)) t := by
       intro t kt
       refine G15 _ ?_
       refine XS.icmpNo X14.here hx rfl (hb hby d8_19) rfl (tlt hc19_16).2.1 ?_
       refine XS.iloadN X14.here hx rfl (hb hby d8_22) rfl ?_
       refine XS.bipush X14.here hx rfl (hb hby d8_23) ?_
       exact kt
      by_cases hc25_18 : c1 = (9 : Int32)
      ·skip
       have G19 : ∀ t, Steps p.tables e below (T14.setTop (mkF m 31 #[rv r0, iv 1, iv c1] [(.int (127 : Int32)), (.int c1)])) t → Steps p.tables e below (s₁.setTop (entryFrame m #[(.ref r0)] 3)) t := by
        intro t kt
        refine G17 _ ?_
        refine XS.icmpNo X14.here hx rfl (hb hby d8_25) rfl (teq hc25_18).2 ?_
        refine XS.iloadN X14.here hx rfl (hb hby d8_28) rfl ?_
        refine XS.bipush X14.here hx rfl (hb hby d8_29) ?_
        exact kt
       by_cases hc31_20 : c1 = (127 : Int32)
       ·skip
        obtain ⟨fs, hr, hrun, hended, hW, hsame⟩ := X14.leave (v := some (.int (0 : Int32))) (fun h => by rw [Bd.returns] at h; cases h)
        refine ⟨_, _, G19 _ ?_, hrun, hended, _, _, rfl, ?_, ⟨_, rfl⟩, hW, hsame.mono (by decide) (by decide)⟩
        ·skip
         refine XS.icmpYes X14.here hx rfl (pc0 := 31) (pc' := 41) rfl (hb hby d8_31) rfl (teq hc31_20).1 (by decide) (by decide) ?_
         refine XS.iconst X14.here hx rfl (hb hby d8_41) ?_
         exact retN X14 hx (t := .boolean) Bd.returns (by simp) (hb hby d8_42) hr
        ·show QrmFVL2 Z r0 c0 c1 ta kb cst fv h0 n0 _ T14.heap _
         rw [eh14]
         exact ⟨by rw [own_fv, if_neg ((own_al c0).1 (by have q0 := hc19_5; have q1 := hc25_7; have q2 := hc31_9; have q3 := hc38_11; simp only [Int32.lt_iff_toInt_lt, ← Int32.toInt_inj, own_k9, own_k32, own_k127, own_k255] at q0 q1 q2 q3; omega)), own_fv, if_pos ((own_al c1).2 (by have q0 := hc19_16; have q1 := hc25_18; have q2 := hc31_20; simp only [Int32.lt_iff_toInt_lt, ← Int32.toInt_inj, own_k9, own_k32, own_k127, own_k255] at q0 q1 q2; omega))], N14, rfl⟩
       ·skip
        have G21 : ∀ t, Steps p.tables e below (T14.setTop (mkF m 38 #[rv r0, iv 1, iv c1] [(.int (255 : Int32)), (.int c1)])) t → Steps p.tables e below (s₁.setTop (entryFrame m #[(.ref r0)] 3)) t := by
         intro t kt
         refine G19 _ ?_
         refine XS.icmpNo X14.here hx rfl (hb hby d8_31) rfl (feq hc31_20).1 ?_
         refine XS.iloadN X14.here hx rfl (hb hby d8_34) rfl ?_
         refine XS.sipush X14.here hx rfl (hb hby d8_35) ?_
         exact kt
        by_cases hc38_22 : (255 : Int32) < c1
        ·skip
         obtain ⟨fs, hr, hrun, hended, hW, hsame⟩ := X14.leave (v := some (.int (0 : Int32))) (fun h => by rw [Bd.returns] at h; cases h)
         refine ⟨_, _, G21 _ ?_, hrun, hended, _, _, rfl, ?_, ⟨_, rfl⟩, hW, hsame.mono (by decide) (by decide)⟩
         ·skip
          refine XS.icmpNo X14.here hx rfl (hb hby d8_38) rfl (tlt hc38_22).2.2.2 ?_
          refine XS.iconst X14.here hx rfl (hb hby d8_41) ?_
          exact retN X14 hx (t := .boolean) Bd.returns (by simp) (hb hby d8_42) hr
         ·show QrmFVL2 Z r0 c0 c1 ta kb cst fv h0 n0 _ T14.heap _
          rw [eh14]
          exact ⟨by rw [own_fv, if_neg ((own_al c0).1 (by have q0 := hc19_5; have q1 := hc25_7; have q2 := hc31_9; have q3 := hc38_11; simp only [Int32.lt_iff_toInt_lt, ← Int32.toInt_inj, own_k9, own_k32, own_k127, own_k255] at q0 q1 q2 q3; omega)), own_fv, if_pos ((own_al c1).2 (by have q0 := hc19_16; have q1 := hc25_18; have q2 := hc31_20; have q3 := hc38_22; simp only [Int32.lt_iff_toInt_lt, ← Int32.toInt_inj, own_k9, own_k32, own_k127, own_k255] at q0 q1 q2 q3; omega))], N14, rfl⟩
        ·skip
         obtain ⟨cq23, kq23, q23a, q23b, q23c⟩ := isOf hZ eh14 E0
         obtain ⟨_, _, ⟨T23, L23, k23, n23⟩, -, X23, ⟨Lc23, hQ23, l23, y23, z23⟩, st23⟩ := X14.virtualBack hx (y := (⟨"java/lang/String", "length", "()I"⟩ : MethodName)) (z := (⟨"java/lang/String", "length", "()I"⟩ : MethodName)) hown (mvT hZ (hq hw 38 rfl)) (mvT hZ (hq hw 39 rfl)) (notFace_of_selects (args := #[]) (mvT hZ (hq hw 41 rfl))) (mvT hZ (hq hw 41 rfl)) (mvT hZ (hq hw 40 rfl)) (by decide) (backOf (W := 1) (rm9 l Z a0 hw [] r0 (0 : Int32) ta kb (2 : Int32) [(.int (nar .byte (c0.toInt8.toInt32))), (.int (nar .byte (c1.toInt8.toInt32)))] (2 : Int32) cst fv h0 n0 Z0 E0 Fc Fv V0 O0 (by decide) SS) hZ (hq hw 42 rfl) (hq hw 3 rfl) (by decide) (by decide)) q23a q23c (g := (mkF m 4 #[rv r0, iv 2, iv c1] [(.ref r0), (.int (2 : Int32))])) rfl (by rw [hml]; rfl) (Steps.refl _) (argsL := []) (rest := [(.int (2 : Int32))]) (lenOf pd_14 rfl) rfl (by show 2 * 0 + _ ≤ _; exact Nat.le_of_eq rfl) (hb hby d8_4) (fun _ _ => ⟨rfl, eh14, (by decide : 0 + 0 ≤ _), (by decide : 0 + 0 ≤ _)⟩)
         dsimp only [Pt.U, Pt.locs, Pt.cells, Pt.slots] at X23 l23 y23 z23 st23 hQ23
         subst l23 y23 z23
         obtain ⟨rfl, N23q, eh23⟩ := hQ23
         have N23 := Fr.app N14 N23q
         have G24 : ∀ t, Steps p.tables e below (T23.setTop (mkF m 7 #[rv r0, iv 2, iv c1] [(.int (2 : Int32)), (.int (2 : Int32))])) t → Steps p.tables e below (s₁.setTop (entryFrame m #[(.ref r0)] 3)) t := by
          intro t kt
          refine G21 _ ?_
          refine XS.icmpYes X14.here hx rfl (pc0 := 38) (pc' := 43) rfl (hb hby d8_38) rfl (flt hc38_22).2.2.2 (by decide) (by decide) ?_
          refine XS.iinc X14.here hx rfl (hb hby d8_43) rfl (l' := #[rv r0, iv 2, iv c1]) rfl ?_
          refine XS.goto X14.here hx rfl (pc0 := 46) (pc' := 2) rfl (hb hby d8_46) (by decide) (by decide) ?_
          refine XS.iloadN X14.here hx rfl (hb hby d8_2) rfl ?_
          refine XS.aloadN X14.here hx rfl (hb hby d8_3) rfl rfl ?_
          refine st23.trans ?_
          exact kt
         obtain ⟨fs, hr, hrun, hended, hW, hsame⟩ := X23.leave (v := some (.int (1 : Int32))) (fun h => by rw [Bd.returns] at h; cases h)
         refine ⟨_, _, G24 _ ?_, hrun, hended, _, _, rfl, ?_, ⟨_, rfl⟩, hW, hsame.mono (by decide) (by decide)⟩
         ·skip
          refine XS.icmpYes X23.here hx rfl (pc0 := 7) (pc' := 49) rfl (hb hby d8_7) rfl (flt (by decide)).2.1 (by decide) (by decide) ?_
          show Steps p.tables e below (T23.setTop (mkF m 49 #[rv r0, iv 2, iv c1] [])) _
          refine XS.iconst X23.here hx rfl (hb hby d8_49) ?_
          exact retN X23 hx (t := .boolean) Bd.returns (by simp) (hb hby d8_50) hr
         ·show QrmFVL2 Z r0 c0 c1 ta kb cst fv h0 n0 _ T23.heap _
          rw [eh23]
          exact ⟨by rw [own_fv, if_neg ((own_al c0).1 (by have q0 := hc19_5; have q1 := hc25_7; have q2 := hc31_9; have q3 := hc38_11; simp only [Int32.lt_iff_toInt_lt, ← Int32.toInt_inj, own_k9, own_k32, own_k127, own_k255] at q0 q1 q2 q3; omega)), own_fv, if_neg ((own_al c1).1 (by have q0 := hc19_16; have q1 := hc25_18; have q2 := hc31_20; have q3 := hc38_22; simp only [Int32.lt_iff_toInt_lt, ← Int32.toInt_inj, own_k9, own_k32, own_k127, own_k255] at q0 q1 q2 q3; omega)), own_fv], N23, rfl⟩
      ·skip
       obtain ⟨fs, hr, hrun, hended, hW, hsame⟩ := X14.leave (v := some (.int (0 : Int32))) (fun h => by rw [Bd.returns] at h; cases h)
       refine ⟨_, _, G17 _ ?_, hrun, hended, _, _, rfl, ?_, ⟨_, rfl⟩, hW, hsame.mono (by decide) (by decide)⟩
       ·skip
        refine XS.icmpYes X14.here hx rfl (pc0 := 25) (pc' := 41) rfl (hb hby d8_25) rfl (feq hc25_18).2 (by decide) (by decide) ?_
        refine XS.iconst X14.here hx rfl (hb hby d8_41) ?_
        exact retN X14 hx (t := .boolean) Bd.returns (by simp) (hb hby d8_42) hr
       ·show QrmFVL2 Z r0 c0 c1 ta kb cst fv h0 n0 _ T14.heap _
        rw [eh14]
        exact ⟨by rw [own_fv, if_neg ((own_al c0).1 (by have q0 := hc19_5; have q1 := hc25_7; have q2 := hc31_9; have q3 := hc38_11; simp only [Int32.lt_iff_toInt_lt, ← Int32.toInt_inj, own_k9, own_k32, own_k127, own_k255] at q0 q1 q2 q3; omega)), own_fv, if_pos ((own_al c1).2 (by have q0 := hc19_16; have q1 := hc25_18; simp only [Int32.lt_iff_toInt_lt, ← Int32.toInt_inj, own_k9, own_k32, own_k127, own_k255] at q0 q1; omega))], N14, rfl⟩
     ·skip
      have G25 : ∀ t, Steps p.tables e below (T14.setTop (mkF m 31 #[rv r0, iv 1, iv c1] [(.int (127 : Int32)), (.int c1)])) t → Steps p.tables e below (s₁.setTop (entryFrame m #[(.ref r0)] 3)) t := by
       intro t kt
       refine G15 _ ?_
       refine XS.icmpYes X14.here hx rfl (pc0 := 19) (pc' := 28) rfl (hb hby d8_19) rfl (flt hc19_16).2.1 (by decide) (by decide) ?_
       refine XS.iloadN X14.here hx rfl (hb hby d8_28) rfl ?_
       refine XS.bipush X14.here hx rfl (hb hby d8_29) ?_
       exact kt
      by_cases hc31_26 : c1 = (127 : Int32)
      ·skip
       obtain ⟨fs, hr, hrun, hended, hW, hsame⟩ := X14.leave (v := some (.int (0 : Int32))) (fun h => by rw [Bd.returns] at h; cases h)
       refine ⟨_, _, G25 _ ?_, hrun, hended, _, _, rfl, ?_, ⟨_, rfl⟩, hW, hsame.mono (by decide) (by decide)⟩
       ·skip
        refine XS.icmpYes X14.here hx rfl (pc0 := 31) (pc' := 41) rfl (hb hby d8_31) rfl (teq hc31_26).1 (by decide) (by decide) ?_
        refine XS.iconst X14.here hx rfl (hb hby d8_41) ?_
        exact retN X14 hx (t := .boolean) Bd.returns (by simp) (hb hby d8_42) hr
       ·show QrmFVL2 Z r0 c0 c1 ta kb cst fv h0 n0 _ T14.heap _
        rw [eh14]
        exact ⟨by rw [own_fv, if_neg ((own_al c0).1 (by have q0 := hc19_5; have q1 := hc25_7; have q2 := hc31_9; have q3 := hc38_11; simp only [Int32.lt_iff_toInt_lt, ← Int32.toInt_inj, own_k9, own_k32, own_k127, own_k255] at q0 q1 q2 q3; omega)), own_fv, if_pos ((own_al c1).2 (by have q0 := hc19_16; have q1 := hc31_26; simp only [Int32.lt_iff_toInt_lt, ← Int32.toInt_inj, own_k9, own_k32, own_k127, own_k255] at q0 q1; omega))], N14, rfl⟩
      ·skip
       have G27 : ∀ t, Steps p.tables e below (T14.setTop (mkF m 38 #[rv r0, iv 1, iv c1] [(.int (255 : Int32)), (.int c1)])) t → Steps p.tables e below (s₁.setTop (entryFrame m #[(.ref r0)] 3)) t := by
        intro t kt
        refine G25 _ ?_
        refine XS.icmpNo X14.here hx rfl (hb hby d8_31) rfl (feq hc31_26).1 ?_
        refine XS.iloadN X14.here hx rfl (hb hby d8_34) rfl ?_
        refine XS.sipush X14.here hx rfl (hb hby d8_35) ?_
        exact kt
       by_cases hc38_28 : (255 : Int32) < c1
       ·skip
        obtain ⟨fs, hr, hrun, hended, hW, hsame⟩ := X14.leave (v := some (.int (0 : Int32))) (fun h => by rw [Bd.returns] at h; cases h)
        refine ⟨_, _, G27 _ ?_, hrun, hended, _, _, rfl, ?_, ⟨_, rfl⟩, hW, hsame.mono (by decide) (by decide)⟩
        ·skip
         refine XS.icmpNo X14.here hx rfl (hb hby d8_38) rfl (tlt hc38_28).2.2.2 ?_
         refine XS.iconst X14.here hx rfl (hb hby d8_41) ?_
         exact retN X14 hx (t := .boolean) Bd.returns (by simp) (hb hby d8_42) hr
        ·show QrmFVL2 Z r0 c0 c1 ta kb cst fv h0 n0 _ T14.heap _
         rw [eh14]
         exact ⟨by rw [own_fv, if_neg ((own_al c0).1 (by have q0 := hc19_5; have q1 := hc25_7; have q2 := hc31_9; have q3 := hc38_11; simp only [Int32.lt_iff_toInt_lt, ← Int32.toInt_inj, own_k9, own_k32, own_k127, own_k255] at q0 q1 q2 q3; omega)), own_fv, if_pos ((own_al c1).2 (by have q0 := hc19_16; have q1 := hc31_26; have q2 := hc38_28; simp only [Int32.lt_iff_toInt_lt, ← Int32.toInt_inj, own_k9, own_k32, own_k127, own_k255] at q0 q1 q2; omega))], N14, rfl⟩
       ·skip
        obtain ⟨cq29, kq29, q29a, q29b, q29c⟩ := isOf hZ eh14 E0
        obtain ⟨_, _, ⟨T29, L29, k29, n29⟩, -, X29, ⟨Lc29, hQ29, l29, y29, z29⟩, st29⟩ := X14.virtualBack hx (y := (⟨"java/lang/String", "length", "()I"⟩ : MethodName)) (z := (⟨"java/lang/String", "length", "()I"⟩ : MethodName)) hown (mvT hZ (hq hw 38 rfl)) (mvT hZ (hq hw 39 rfl)) (notFace_of_selects (args := #[]) (mvT hZ (hq hw 41 rfl))) (mvT hZ (hq hw 41 rfl)) (mvT hZ (hq hw 40 rfl)) (by decide) (backOf (W := 1) (rm9 l Z a0 hw [] r0 (0 : Int32) ta kb (2 : Int32) [(.int (nar .byte (c0.toInt8.toInt32))), (.int (nar .byte (c1.toInt8.toInt32)))] (2 : Int32) cst fv h0 n0 Z0 E0 Fc Fv V0 O0 (by decide) SS) hZ (hq hw 42 rfl) (hq hw 3 rfl) (by decide) (by decide)) q29a q29c (g := (mkF m 4 #[rv r0, iv 2, iv c1] [(.ref r0), (.int (2 : Int32))])) rfl (by rw [hml]; rfl) (Steps.refl _) (argsL := []) (rest := [(.int (2 : Int32))]) (lenOf pd_14 rfl) rfl (by show 2 * 0 + _ ≤ _; exact Nat.le_of_eq rfl) (hb hby d8_4) (fun _ _ => ⟨rfl, eh14, (by decide : 0 + 0 ≤ _), (by decide : 0 + 0 ≤ _)⟩)
        dsimp only [Pt.U, Pt.locs, Pt.cells, Pt.slots] at X29 l29 y29 z29 st29 hQ29
        subst l29 y29 z29
        obtain ⟨rfl, N29q, eh29⟩ := hQ29
        have N29 := Fr.app N14 N29q
        have G30 : ∀ t, Steps p.tables e below (T29.setTop (mkF m 7 #[rv r0, iv 2, iv c1] [(.int (2 : Int32)), (.int (2 : Int32))])) t → Steps p.tables e below (s₁.setTop (entryFrame m #[(.ref r0)] 3)) t := by
         intro t kt
         refine G27 _ ?_
         refine XS.icmpYes X14.here hx rfl (pc0 := 38) (pc' := 43) rfl (hb hby d8_38) rfl (flt hc38_28).2.2.2 (by decide) (by decide) ?_
         refine XS.iinc X14.here hx rfl (hb hby d8_43) rfl (l' := #[rv r0, iv 2, iv c1]) rfl ?_
         refine XS.goto X14.here hx rfl (pc0 := 46) (pc' := 2) rfl (hb hby d8_46) (by decide) (by decide) ?_
         refine XS.iloadN X14.here hx rfl (hb hby d8_2) rfl ?_
         refine XS.aloadN X14.here hx rfl (hb hby d8_3) rfl rfl ?_
         refine st29.trans ?_
         exact kt
        obtain ⟨fs, hr, hrun, hended, hW, hsame⟩ := X29.leave (v := some (.int (1 : Int32))) (fun h => by rw [Bd.returns] at h; cases h)
        refine ⟨_, _, G30 _ ?_, hrun, hended, _, _, rfl, ?_, ⟨_, rfl⟩, hW, hsame.mono (by decide) (by decide)⟩
        ·skip
         refine XS.icmpYes X29.here hx rfl (pc0 := 7) (pc' := 49) rfl (hb hby d8_7) rfl (flt (by decide)).2.1 (by decide) (by decide) ?_
         refine XS.iconst X29.here hx rfl (hb hby d8_49) ?_
         exact retN X29 hx (t := .boolean) Bd.returns (by simp) (hb hby d8_50) hr
        ·show QrmFVL2 Z r0 c0 c1 ta kb cst fv h0 n0 _ T29.heap _
         rw [eh29]
         exact ⟨by rw [own_fv, if_neg ((own_al c0).1 (by have q0 := hc19_5; have q1 := hc25_7; have q2 := hc31_9; have q3 := hc38_11; simp only [Int32.lt_iff_toInt_lt, ← Int32.toInt_inj, own_k9, own_k32, own_k127, own_k255] at q0 q1 q2 q3; omega)), own_fv, if_neg ((own_al c1).1 (by have q0 := hc19_16; have q1 := hc31_26; have q2 := hc38_28; simp only [Int32.lt_iff_toInt_lt, ← Int32.toInt_inj, own_k9, own_k32, own_k127, own_k255] at q0 q1 q2; omega)), own_fv], N29, rfl⟩
  ·skip
   obtain ⟨fs, hr, hrun, hended, hW, hsame⟩ := X3.leave (v := some (.int (0 : Int32))) (fun h => by rw [Bd.returns] at h; cases h)
   refine ⟨_, _, G6 _ ?_, hrun, hended, _, _, rfl, ?_, ⟨_, rfl⟩, hW, hsame.mono (by decide) (by decide)⟩
   ·skip
    refine XS.icmpYes X3.here hx rfl (pc0 := 25) (pc' := 41) rfl (hb hby d8_25) rfl (feq hc25_7).2 (by decide) (by decide) ?_
    refine XS.iconst X3.here hx rfl (hb hby d8_41) ?_
    exact retN X3 hx (t := .boolean) Bd.returns (by simp) (hb hby d8_42) hr
   ·show QrmFVL2 Z r0 c0 c1 ta kb cst fv h0 n0 _ T3.heap _
    rw [eh3]
    exact ⟨by rw [own_fv, if_pos ((own_al c0).2 (by have q0 := hc19_5; have q1 := hc25_7; simp only [Int32.lt_iff_toInt_lt, ← Int32.toInt_inj, own_k9, own_k32, own_k127, own_k255] at q0 q1; omega))], N3, rfl⟩
 ·skip
  have G31 : ∀ t, Steps p.tables e below (T3.setTop (mkF m 31 #[rv r0, iv 0, iv c0] [(.int (127 : Int32)), (.int c0)])) t → Steps p.tables e below (s₁.setTop (entryFrame m #[(.ref r0)] 3)) t := by
   intro t kt
   refine G4 _ ?_
   refine XS.icmpYes X3.here hx rfl (pc0 := 19) (pc' := 28) rfl (hb hby d8_19) rfl (flt hc19_5).2.1 (by decide) (by decide) ?_
   refine XS.iloadN X3.here hx rfl (hb hby d8_28) rfl ?_
   refine XS.bipush X3.here hx rfl (hb hby d8_29) ?_
   exact kt
  by_cases hc31_32 : c0 = (127 : Int32)
  ·skip
   obtain ⟨fs, hr, hrun, hended, hW, hsame⟩ := X3.leave (v := some (.int (0 : Int32))) (fun h => by rw [Bd.returns] at h; cases h)
   refine ⟨_, _, G31 _ ?_, hrun, hended, _, _, rfl, ?_, ⟨_, rfl⟩, hW, hsame.mono (by decide) (by decide)⟩
   ·skip
    refine XS.icmpYes X3.here hx rfl (pc0 := 31) (pc' := 41) rfl (hb hby d8_31) rfl (teq hc31_32).1 (by decide) (by decide) ?_
    refine XS.iconst X3.here hx rfl (hb hby d8_41) ?_
    exact retN X3 hx (t := .boolean) Bd.returns (by simp) (hb hby d8_42) hr
   ·show QrmFVL2 Z r0 c0 c1 ta kb cst fv h0 n0 _ T3.heap _
    rw [eh3]
    exact ⟨by rw [own_fv, if_pos ((own_al c0).2 (by have q0 := hc19_5; have q1 := hc31_32; simp only [Int32.lt_iff_toInt_lt, ← Int32.toInt_inj, own_k9, own_k32, own_k127, own_k255] at q0 q1; omega))], N3, rfl⟩
  ·skip
   have G33 : ∀ t, Steps p.tables e below (T3.setTop (mkF m 38 #[rv r0, iv 0, iv c0] [(.int (255 : Int32)), (.int c0)])) t → Steps p.tables e below (s₁.setTop (entryFrame m #[(.ref r0)] 3)) t := by
    intro t kt
    refine G31 _ ?_
    refine XS.icmpNo X3.here hx rfl (hb hby d8_31) rfl (feq hc31_32).1 ?_
    refine XS.iloadN X3.here hx rfl (hb hby d8_34) rfl ?_
    refine XS.sipush X3.here hx rfl (hb hby d8_35) ?_
    exact kt
   by_cases hc38_34 : (255 : Int32) < c0
   ·skip
    obtain ⟨fs, hr, hrun, hended, hW, hsame⟩ := X3.leave (v := some (.int (0 : Int32))) (fun h => by rw [Bd.returns] at h; cases h)
    refine ⟨_, _, G33 _ ?_, hrun, hended, _, _, rfl, ?_, ⟨_, rfl⟩, hW, hsame.mono (by decide) (by decide)⟩
    ·skip
     refine XS.icmpNo X3.here hx rfl (hb hby d8_38) rfl (tlt hc38_34).2.2.2 ?_
     refine XS.iconst X3.here hx rfl (hb hby d8_41) ?_
     exact retN X3 hx (t := .boolean) Bd.returns (by simp) (hb hby d8_42) hr
    ·show QrmFVL2 Z r0 c0 c1 ta kb cst fv h0 n0 _ T3.heap _
     rw [eh3]
     exact ⟨by rw [own_fv, if_pos ((own_al c0).2 (by have q0 := hc19_5; have q1 := hc31_32; have q2 := hc38_34; simp only [Int32.lt_iff_toInt_lt, ← Int32.toInt_inj, own_k9, own_k32, own_k127, own_k255] at q0 q1 q2; omega))], N3, rfl⟩
   ·skip
    obtain ⟨cq35, kq35, q35a, q35b, q35c⟩ := isOf hZ eh3 E0
    obtain ⟨_, _, ⟨T35, L35, k35, n35⟩, -, X35, ⟨Lc35, hQ35, l35, y35, z35⟩, st35⟩ := X3.virtualBack hx (y := (⟨"java/lang/String", "length", "()I"⟩ : MethodName)) (z := (⟨"java/lang/String", "length", "()I"⟩ : MethodName)) hown (mvT hZ (hq hw 38 rfl)) (mvT hZ (hq hw 39 rfl)) (notFace_of_selects (args := #[]) (mvT hZ (hq hw 41 rfl))) (mvT hZ (hq hw 41 rfl)) (mvT hZ (hq hw 40 rfl)) (by decide) (backOf (W := 1) (rm9 l Z a0 hw [] r0 (0 : Int32) ta kb (2 : Int32) [(.int (nar .byte (c0.toInt8.toInt32))), (.int (nar .byte (c1.toInt8.toInt32)))] (2 : Int32) cst fv h0 n0 Z0 E0 Fc Fv V0 O0 (by decide) SS) hZ (hq hw 42 rfl) (hq hw 3 rfl) (by decide) (by decide)) q35a q35c (g := (mkF m 4 #[rv r0, iv 1, iv c0] [(.ref r0), (.int (1 : Int32))])) rfl (by rw [hml]; rfl) (Steps.refl _) (argsL := []) (rest := [(.int (1 : Int32))]) (lenOf pd_14 rfl) rfl (by show 2 * 0 + _ ≤ _; exact Nat.le_of_eq rfl) (hb hby d8_4) (fun _ _ => ⟨rfl, eh3, (by decide : 0 + 0 ≤ _), (by decide : 0 + 0 ≤ _)⟩)
    dsimp only [Pt.U, Pt.locs, Pt.cells, Pt.slots] at X35 l35 y35 z35 st35 hQ35
    subst l35 y35 z35
    obtain ⟨rfl, N35q, eh35⟩ := hQ35
    have N35 := Fr.app N3 N35q
    have G36 : ∀ t, Steps p.tables e below (T35.setTop (mkF m 7 #[rv r0, iv 1, iv c0] [(.int (2 : Int32)), (.int (1 : Int32))])) t → Steps p.tables e below (s₁.setTop (entryFrame m #[(.ref r0)] 3)) t := by
     intro t kt
     refine G33 _ ?_
     refine XS.icmpYes X3.here hx rfl (pc0 := 38) (pc' := 43) rfl (hb hby d8_38) rfl (flt hc38_34).2.2.2 (by decide) (by decide) ?_
     refine XS.iinc X3.here hx rfl (hb hby d8_43) rfl (l' := #[rv r0, iv 1, iv c0]) rfl ?_
     refine XS.goto X3.here hx rfl (pc0 := 46) (pc' := 2) rfl (hb hby d8_46) (by decide) (by decide) ?_
     refine XS.iloadN X3.here hx rfl (hb hby d8_2) rfl ?_
     refine XS.aloadN X3.here hx rfl (hb hby d8_3) rfl rfl ?_
     show Steps p.tables e below (T3.setTop (mkF m 4 #[rv r0, iv 1, iv c0] [(.ref r0), (.int (1 : Int32))])) _
     refine st35.trans ?_
     exact kt
    obtain ⟨cq37, kq37, q37a, q37b, q37c⟩ := isOf hZ eh35 E0
    obtain ⟨_, _, ⟨T37, L37, k37, n37⟩, -, X37, ⟨Lc37, hQ37, l37, y37, z37⟩, st37⟩ := X35.virtualBack hx (y := (⟨"java/lang/String", "charAt", "(I)C"⟩ : MethodName)) (z := (⟨"java/lang/String", "charAt", "(I)C"⟩ : MethodName)) hown (mvT hZ (hq hw 48 rfl)) (mvT hZ (hq hw 49 rfl)) (notFace_of_selects (args := #[]) (mvT hZ (hq hw 51 rfl))) (mvT hZ (hq hw 51 rfl)) (mvT hZ (hq hw 50 rfl)) (by decide) (backOf (W := 0) (rmChL l Z a0 hw [] r0 (1 : Int32) ta kb (2 : Int32) [(.int (nar .byte (c0.toInt8.toInt32))), (.int (nar .byte (c1.toInt8.toInt32)))] (nar .byte (c1.toInt8.toInt32)) c1 cst fv h0 n0 Z0 E0 Fc Fv V0 O0 (by decide) (by decide) rfl (own_lat c1 hb1 hl1) SS) hZ (hq hw 52 rfl) (hq hw 3 rfl) (by decide) (by decide)) q37a q37c (g := (mkF m 12 #[rv r0, iv 1, iv c0] [(.int (1 : Int32)), (.ref r0)])) rfl (by rw [hml]; rfl) (Steps.refl _) (argsL := [(.int (1 : Int32))]) (rest := []) (lenOf pd_15 rfl) rfl (by show 2 * 0 + _ ≤ _; exact Nat.le_of_eq rfl) (hb hby d8_12) (fun _ _ => ⟨rfl, eh35, (by decide : 0 + 0 ≤ _), (by decide : 0 + 0 ≤ _)⟩)
    dsimp only [Pt.U, Pt.locs, Pt.cells, Pt.slots] at X37 l37 y37 z37 st37 hQ37
    subst l37 y37 z37
    obtain ⟨rfl, N37q, eh37⟩ := hQ37
    have N37 := Fr.app N35 N37q
    have G38 : ∀ t, Steps p.tables e below (T37.setTop (mkF m 19 #[rv r0, iv 1, iv c1] [(.int (32 : Int32)), (.int c1)])) t → Steps p.tables e below (s₁.setTop (entryFrame m #[(.ref r0)] 3)) t := by
     intro t kt
     refine G36 _ ?_
     refine XS.icmpNo X35.here hx rfl (hb hby d8_7) rfl (tlt (by decide)).2.1 ?_
     refine XS.aloadN X35.here hx rfl (hb hby d8_10) rfl rfl ?_
     refine XS.iloadN X35.here hx rfl (hb hby d8_11) rfl ?_
     refine st37.trans ?_
     refine XS.istoreN X37.here hx rfl (hb hby d8_15) rfl (l' := #[rv r0, iv 1, iv c1]) rfl ?_
     refine XS.iloadN X37.here hx rfl (hb hby d8_16) rfl ?_
     refine XS.bipush X37.here hx rfl (hb hby d8_17) ?_
     exact kt
    by_cases hc19_39 : c1 < (32 : Int32)
    ·skip
     have G40 : ∀ t, Steps p.tables e below (T37.setTop (mkF m 25 #[rv r0, iv 1, iv c1] [(.int (9 : Int32)), (.int c1)])) t → Steps p.tables e below (s₁.setTop (entryFrame m #[(.ref r0)] 3)) t := by
      intro t kt
      refine G38 _ ?_
      refine XS.icmpNo X37.here hx rfl (hb hby d8_19) rfl (tlt hc19_39).2.1 ?_
      refine XS.iloadN X37.here hx rfl (hb hby d8_22) rfl ?_
      refine XS.bipush X37.here hx rfl (hb hby d8_23) ?_
      exact kt
     by_cases hc25_41 : c1 = (9 : Int32)
     ·skip
      have G42 : ∀ t, Steps p.tables e below (T37.setTop (mkF m 31 #[rv r0, iv 1, iv c1] [(.int (127 : Int32)), (.int c1)])) t → Steps p.tables e below (s₁.setTop (entryFrame m #[(.ref r0)] 3)) t := by
       intro t kt
       refine G40 _ ?_
       refine XS.icmpNo X37.here hx rfl (hb hby d8_25) rfl (teq hc25_41).2 ?_
       refine XS.iloadN X37.here hx rfl (hb hby d8_28) rfl ?_
       refine XS.bipush X37.here hx rfl (hb hby d8_29) ?_
       exact kt
      by_cases hc31_43 : c1 = (127 : Int32)
      ·skip
       obtain ⟨fs, hr, hrun, hended, hW, hsame⟩ := X37.leave (v := some (.int (0 : Int32))) (fun h => by rw [Bd.returns] at h; cases h)
       refine ⟨_, _, G42 _ ?_, hrun, hended, _, _, rfl, ?_, ⟨_, rfl⟩, hW, hsame.mono (by decide) (by decide)⟩
       ·skip
        refine XS.icmpYes X37.here hx rfl (pc0 := 31) (pc' := 41) rfl (hb hby d8_31) rfl (teq hc31_43).1 (by decide) (by decide) ?_
        refine XS.iconst X37.here hx rfl (hb hby d8_41) ?_
        exact retN X37 hx (t := .boolean) Bd.returns (by simp) (hb hby d8_42) hr
       ·show QrmFVL2 Z r0 c0 c1 ta kb cst fv h0 n0 _ T37.heap _
        rw [eh37]
        exact ⟨by rw [own_fv, if_neg ((own_al c0).1 (by have q0 := hc19_5; have q1 := hc31_32; have q2 := hc38_34; simp only [Int32.lt_iff_toInt_lt, ← Int32.toInt_inj, own_k9, own_k32, own_k127, own_k255] at q0 q1 q2; omega)), own_fv, if_pos ((own_al c1).2 (by have q0 := hc19_39; have q1 := hc25_41; have q2 := hc31_43; simp only [Int32.lt_iff_toInt_lt, ← Int32.toInt_inj, own_k9, own_k32, own_k127, own_k255] at q0 q1 q2; omega))], N37, rfl⟩
      ·skip
       have G44 : ∀ t, Steps p.tables e below (T37.setTop (mkF m 38 #[rv r0, iv 1, iv c1] [(.int (255 : Int32)), (.int c1)])) t → Steps p.tables e below (s₁.setTop (entryFrame m #[(.ref r0)] 3)) t := by
        intro t kt
        refine G42 _ ?_
        refine XS.icmpNo X37.here hx rfl (hb hby d8_31) rfl (feq hc31_43).1 ?_
        refine XS.iloadN X37.here hx rfl (hb hby d8_34) rfl ?_
        refine XS.sipush X37.here hx rfl (hb hby d8_35) ?_
        exact kt
       by_cases hc38_45 : (255 : Int32) < c1
       ·skip
        obtain ⟨fs, hr, hrun, hended, hW, hsame⟩ := X37.leave (v := some (.int (0 : Int32))) (fun h => by rw [Bd.returns] at h; cases h)
        refine ⟨_, _, G44 _ ?_, hrun, hended, _, _, rfl, ?_, ⟨_, rfl⟩, hW, hsame.mono (by decide) (by decide)⟩
        ·skip
         refine XS.icmpNo X37.here hx rfl (hb hby d8_38) rfl (tlt hc38_45).2.2.2 ?_
         refine XS.iconst X37.here hx rfl (hb hby d8_41) ?_
         exact retN X37 hx (t := .boolean) Bd.returns (by simp) (hb hby d8_42) hr
        ·show QrmFVL2 Z r0 c0 c1 ta kb cst fv h0 n0 _ T37.heap _
         rw [eh37]
         exact ⟨by rw [own_fv, if_neg ((own_al c0).1 (by have q0 := hc19_5; have q1 := hc31_32; have q2 := hc38_34; simp only [Int32.lt_iff_toInt_lt, ← Int32.toInt_inj, own_k9, own_k32, own_k127, own_k255] at q0 q1 q2; omega)), own_fv, if_pos ((own_al c1).2 (by have q0 := hc19_39; have q1 := hc25_41; have q2 := hc31_43; have q3 := hc38_45; simp only [Int32.lt_iff_toInt_lt, ← Int32.toInt_inj, own_k9, own_k32, own_k127, own_k255] at q0 q1 q2 q3; omega))], N37, rfl⟩
       ·skip
        obtain ⟨cq46, kq46, q46a, q46b, q46c⟩ := isOf hZ eh37 E0
        obtain ⟨_, _, ⟨T46, L46, k46, n46⟩, -, X46, ⟨Lc46, hQ46, l46, y46, z46⟩, st46⟩ := X37.virtualBack hx (y := (⟨"java/lang/String", "length", "()I"⟩ : MethodName)) (z := (⟨"java/lang/String", "length", "()I"⟩ : MethodName)) hown (mvT hZ (hq hw 38 rfl)) (mvT hZ (hq hw 39 rfl)) (notFace_of_selects (args := #[]) (mvT hZ (hq hw 41 rfl))) (mvT hZ (hq hw 41 rfl)) (mvT hZ (hq hw 40 rfl)) (by decide) (backOf (W := 1) (rm9 l Z a0 hw [] r0 (0 : Int32) ta kb (2 : Int32) [(.int (nar .byte (c0.toInt8.toInt32))), (.int (nar .byte (c1.toInt8.toInt32)))] (2 : Int32) cst fv h0 n0 Z0 E0 Fc Fv V0 O0 (by decide) SS) hZ (hq hw 42 rfl) (hq hw 3 rfl) (by decide) (by decide)) q46a q46c (g := (mkF m 4 #[rv r0, iv 2, iv c1] [(.ref r0), (.int (2 : Int32))])) rfl (by rw [hml]; rfl) (Steps.refl _) (argsL := []) (rest := [(.int (2 : Int32))]) (lenOf pd_14 rfl) rfl (by show 2 * 0 + _ ≤ _; exact Nat.le_of_eq rfl) (hb hby d8_4) (fun _ _ => ⟨rfl, eh37, (by decide : 0 + 0 ≤ _), (by decide : 0 + 0 ≤ _)⟩)
        dsimp only [Pt.U, Pt.locs, Pt.cells, Pt.slots] at X46 l46 y46 z46 st46 hQ46
        subst l46 y46 z46
        obtain ⟨rfl, N46q, eh46⟩ := hQ46
        have N46 := Fr.app N37 N46q
        have G47 : ∀ t, Steps p.tables e below (T46.setTop (mkF m 7 #[rv r0, iv 2, iv c1] [(.int (2 : Int32)), (.int (2 : Int32))])) t → Steps p.tables e below (s₁.setTop (entryFrame m #[(.ref r0)] 3)) t := by
         intro t kt
         refine G44 _ ?_
         refine XS.icmpYes X37.here hx rfl (pc0 := 38) (pc' := 43) rfl (hb hby d8_38) rfl (flt hc38_45).2.2.2 (by decide) (by decide) ?_
         refine XS.iinc X37.here hx rfl (hb hby d8_43) rfl (l' := #[rv r0, iv 2, iv c1]) rfl ?_
         refine XS.goto X37.here hx rfl (pc0 := 46) (pc' := 2) rfl (hb hby d8_46) (by decide) (by decide) ?_
         refine XS.iloadN X37.here hx rfl (hb hby d8_2) rfl ?_
         refine XS.aloadN X37.here hx rfl (hb hby d8_3) rfl rfl ?_
         refine st46.trans ?_
         exact kt
        obtain ⟨fs, hr, hrun, hended, hW, hsame⟩ := X46.leave (v := some (.int (1 : Int32))) (fun h => by rw [Bd.returns] at h; cases h)
        refine ⟨_, _, G47 _ ?_, hrun, hended, _, _, rfl, ?_, ⟨_, rfl⟩, hW, hsame.mono (by decide) (by decide)⟩
        ·skip
         refine XS.icmpYes X46.here hx rfl (pc0 := 7) (pc' := 49) rfl (hb hby d8_7) rfl (flt (by decide)).2.1 (by decide) (by decide) ?_
         refine XS.iconst X46.here hx rfl (hb hby d8_49) ?_
         exact retN X46 hx (t := .boolean) Bd.returns (by simp) (hb hby d8_50) hr
        ·show QrmFVL2 Z r0 c0 c1 ta kb cst fv h0 n0 _ T46.heap _
         rw [eh46]
         exact ⟨by rw [own_fv, if_neg ((own_al c0).1 (by have q0 := hc19_5; have q1 := hc31_32; have q2 := hc38_34; simp only [Int32.lt_iff_toInt_lt, ← Int32.toInt_inj, own_k9, own_k32, own_k127, own_k255] at q0 q1 q2; omega)), own_fv, if_neg ((own_al c1).1 (by have q0 := hc19_39; have q1 := hc25_41; have q2 := hc31_43; have q3 := hc38_45; simp only [Int32.lt_iff_toInt_lt, ← Int32.toInt_inj, own_k9, own_k32, own_k127, own_k255] at q0 q1 q2 q3; omega)), own_fv], N46, rfl⟩
     ·skip
      obtain ⟨fs, hr, hrun, hended, hW, hsame⟩ := X37.leave (v := some (.int (0 : Int32))) (fun h => by rw [Bd.returns] at h; cases h)
      refine ⟨_, _, G40 _ ?_, hrun, hended, _, _, rfl, ?_, ⟨_, rfl⟩, hW, hsame.mono (by decide) (by decide)⟩
      ·skip
       refine XS.icmpYes X37.here hx rfl (pc0 := 25) (pc' := 41) rfl (hb hby d8_25) rfl (feq hc25_41).2 (by decide) (by decide) ?_
       refine XS.iconst X37.here hx rfl (hb hby d8_41) ?_
       exact retN X37 hx (t := .boolean) Bd.returns (by simp) (hb hby d8_42) hr
      ·show QrmFVL2 Z r0 c0 c1 ta kb cst fv h0 n0 _ T37.heap _
       rw [eh37]
       exact ⟨by rw [own_fv, if_neg ((own_al c0).1 (by have q0 := hc19_5; have q1 := hc31_32; have q2 := hc38_34; simp only [Int32.lt_iff_toInt_lt, ← Int32.toInt_inj, own_k9, own_k32, own_k127, own_k255] at q0 q1 q2; omega)), own_fv, if_pos ((own_al c1).2 (by have q0 := hc19_39; have q1 := hc25_41; simp only [Int32.lt_iff_toInt_lt, ← Int32.toInt_inj, own_k9, own_k32, own_k127, own_k255] at q0 q1; omega))], N37, rfl⟩
    ·skip
     have G48 : ∀ t, Steps p.tables e below (T37.setTop (mkF m 31 #[rv r0, iv 1, iv c1] [(.int (127 : Int32)), (.int c1)])) t → Steps p.tables e below (s₁.setTop (entryFrame m #[(.ref r0)] 3)) t := by
      intro t kt
      refine G38 _ ?_
      refine XS.icmpYes X37.here hx rfl (pc0 := 19) (pc' := 28) rfl (hb hby d8_19) rfl (flt hc19_39).2.1 (by decide) (by decide) ?_
      refine XS.iloadN X37.here hx rfl (hb hby d8_28) rfl ?_
      refine XS.bipush X37.here hx rfl (hb hby d8_29) ?_
      exact kt
     by_cases hc31_49 : c1 = (127 : Int32)
     ·skip
      obtain ⟨fs, hr, hrun, hended, hW, hsame⟩ := X37.leave (v := some (.int (0 : Int32))) (fun h => by rw [Bd.returns] at h; cases h)
      refine ⟨_, _, G48 _ ?_, hrun, hended, _, _, rfl, ?_, ⟨_, rfl⟩, hW, hsame.mono (by decide) (by decide)⟩
      ·skip
       refine XS.icmpYes X37.here hx rfl (pc0 := 31) (pc' := 41) rfl (hb hby d8_31) rfl (teq hc31_49).1 (by decide) (by decide) ?_
       refine XS.iconst X37.here hx rfl (hb hby d8_41) ?_
       exact retN X37 hx (t := .boolean) Bd.returns (by simp) (hb hby d8_42) hr
      ·show QrmFVL2 Z r0 c0 c1 ta kb cst fv h0 n0 _ T37.heap _
       rw [eh37]
       exact ⟨by rw [own_fv, if_neg ((own_al c0).1 (by have q0 := hc19_5; have q1 := hc31_32; have q2 := hc38_34; simp only [Int32.lt_iff_toInt_lt, ← Int32.toInt_inj, own_k9, own_k32, own_k127, own_k255] at q0 q1 q2; omega)), own_fv, if_pos ((own_al c1).2 (by have q0 := hc19_39; have q1 := hc31_49; simp only [Int32.lt_iff_toInt_lt, ← Int32.toInt_inj, own_k9, own_k32, own_k127, own_k255] at q0 q1; omega))], N37, rfl⟩
     ·skip
      have G50 : ∀ t, Steps p.tables e below (T37.setTop (mkF m 38 #[rv r0, iv 1, iv c1] [(.int (255 : Int32)), (.int c1)])) t → Steps p.tables e below (s₁.setTop (entryFrame m #[(.ref r0)] 3)) t := by
       intro t kt
       refine G48 _ ?_
       refine XS.icmpNo X37.here hx rfl (hb hby d8_31) rfl (feq hc31_49).1 ?_
       refine XS.iloadN X37.here hx rfl (hb hby d8_34) rfl ?_
       refine XS.sipush X37.here hx rfl (hb hby d8_35) ?_
       exact kt
      by_cases hc38_51 : (255 : Int32) < c1
      ·skip
       obtain ⟨fs, hr, hrun, hended, hW, hsame⟩ := X37.leave (v := some (.int (0 : Int32))) (fun h => by rw [Bd.returns] at h; cases h)
       refine ⟨_, _, G50 _ ?_, hrun, hended, _, _, rfl, ?_, ⟨_, rfl⟩, hW, hsame.mono (by decide) (by decide)⟩
       ·skip
        refine XS.icmpNo X37.here hx rfl (hb hby d8_38) rfl (tlt hc38_51).2.2.2 ?_
        refine XS.iconst X37.here hx rfl (hb hby d8_41) ?_
        exact retN X37 hx (t := .boolean) Bd.returns (by simp) (hb hby d8_42) hr
       ·show QrmFVL2 Z r0 c0 c1 ta kb cst fv h0 n0 _ T37.heap _
        rw [eh37]
        exact ⟨by rw [own_fv, if_neg ((own_al c0).1 (by have q0 := hc19_5; have q1 := hc31_32; have q2 := hc38_34; simp only [Int32.lt_iff_toInt_lt, ← Int32.toInt_inj, own_k9, own_k32, own_k127, own_k255] at q0 q1 q2; omega)), own_fv, if_pos ((own_al c1).2 (by have q0 := hc19_39; have q1 := hc31_49; have q2 := hc38_51; simp only [Int32.lt_iff_toInt_lt, ← Int32.toInt_inj, own_k9, own_k32, own_k127, own_k255] at q0 q1 q2; omega))], N37, rfl⟩
      ·skip
       obtain ⟨cq52, kq52, q52a, q52b, q52c⟩ := isOf hZ eh37 E0
       obtain ⟨_, _, ⟨T52, L52, k52, n52⟩, -, X52, ⟨Lc52, hQ52, l52, y52, z52⟩, st52⟩ := X37.virtualBack hx (y := (⟨"java/lang/String", "length", "()I"⟩ : MethodName)) (z := (⟨"java/lang/String", "length", "()I"⟩ : MethodName)) hown (mvT hZ (hq hw 38 rfl)) (mvT hZ (hq hw 39 rfl)) (notFace_of_selects (args := #[]) (mvT hZ (hq hw 41 rfl))) (mvT hZ (hq hw 41 rfl)) (mvT hZ (hq hw 40 rfl)) (by decide) (backOf (W := 1) (rm9 l Z a0 hw [] r0 (0 : Int32) ta kb (2 : Int32) [(.int (nar .byte (c0.toInt8.toInt32))), (.int (nar .byte (c1.toInt8.toInt32)))] (2 : Int32) cst fv h0 n0 Z0 E0 Fc Fv V0 O0 (by decide) SS) hZ (hq hw 42 rfl) (hq hw 3 rfl) (by decide) (by decide)) q52a q52c (g := (mkF m 4 #[rv r0, iv 2, iv c1] [(.ref r0), (.int (2 : Int32))])) rfl (by rw [hml]; rfl) (Steps.refl _) (argsL := []) (rest := [(.int (2 : Int32))]) (lenOf pd_14 rfl) rfl (by show 2 * 0 + _ ≤ _; exact Nat.le_of_eq rfl) (hb hby d8_4) (fun _ _ => ⟨rfl, eh37, (by decide : 0 + 0 ≤ _), (by decide : 0 + 0 ≤ _)⟩)
       dsimp only [Pt.U, Pt.locs, Pt.cells, Pt.slots] at X52 l52 y52 z52 st52 hQ52
       subst l52 y52 z52
       obtain ⟨rfl, N52q, eh52⟩ := hQ52
       have N52 := Fr.app N37 N52q
       have G53 : ∀ t, Steps p.tables e below (T52.setTop (mkF m 7 #[rv r0, iv 2, iv c1] [(.int (2 : Int32)), (.int (2 : Int32))])) t → Steps p.tables e below (s₁.setTop (entryFrame m #[(.ref r0)] 3)) t := by
        intro t kt
        refine G50 _ ?_
        refine XS.icmpYes X37.here hx rfl (pc0 := 38) (pc' := 43) rfl (hb hby d8_38) rfl (flt hc38_51).2.2.2 (by decide) (by decide) ?_
        refine XS.iinc X37.here hx rfl (hb hby d8_43) rfl (l' := #[rv r0, iv 2, iv c1]) rfl ?_
        refine XS.goto X37.here hx rfl (pc0 := 46) (pc' := 2) rfl (hb hby d8_46) (by decide) (by decide) ?_
        refine XS.iloadN X37.here hx rfl (hb hby d8_2) rfl ?_
        refine XS.aloadN X37.here hx rfl (hb hby d8_3) rfl rfl ?_
        refine st52.trans ?_
        exact kt
       obtain ⟨fs, hr, hrun, hended, hW, hsame⟩ := X52.leave (v := some (.int (1 : Int32))) (fun h => by rw [Bd.returns] at h; cases h)
       refine ⟨_, _, G53 _ ?_, hrun, hended, _, _, rfl, ?_, ⟨_, rfl⟩, hW, hsame.mono (by decide) (by decide)⟩
       ·skip
        refine XS.icmpYes X52.here hx rfl (pc0 := 7) (pc' := 49) rfl (hb hby d8_7) rfl (flt (by decide)).2.1 (by decide) (by decide) ?_
        refine XS.iconst X52.here hx rfl (hb hby d8_49) ?_
        exact retN X52 hx (t := .boolean) Bd.returns (by simp) (hb hby d8_50) hr
       ·show QrmFVL2 Z r0 c0 c1 ta kb cst fv h0 n0 _ T52.heap _
        rw [eh52]
        exact ⟨by rw [own_fv, if_neg ((own_al c0).1 (by have q0 := hc19_5; have q1 := hc31_32; have q2 := hc38_34; simp only [Int32.lt_iff_toInt_lt, ← Int32.toInt_inj, own_k9, own_k32, own_k127, own_k255] at q0 q1 q2; omega)), own_fv, if_neg ((own_al c1).1 (by have q0 := hc19_39; have q1 := hc31_49; have q2 := hc38_51; simp only [Int32.lt_iff_toInt_lt, ← Int32.toInt_inj, own_k9, own_k32, own_k127, own_k255] at q0 q1 q2; omega)), own_fv], N52, rfl⟩
def QrmFVU2 (Z : State) (r0 : Addr) (c0 c1 : Int32) (ta : Addr) (kb : ClassId) (cst : Int32) (fv : Value) (h0 : Heap) (n0 : Nat) (v : Option Value) (h : Heap) (L : List Loc) : Prop := v = some (.int (own_fv [c0, c1])) ∧ Fr n0 L ∧ h = h0
theorem ef_rmFVU2 (m : MethodId) (x0 : Addr) : entryFrame m #[(.ref x0)] 3 = mkF m 0 #[.val (.ref x0), .unset, .unset] [] := by first | (simp [entryFrame, mkF, argsToLocals, Value.category]; done) | rfl
set_option maxRecDepth 65536 in
set_option maxHeartbeats 40000000 in
theorem rmFVU2 (l : Launch) (Z : State) (a0 : Array Value) (hw : ∀ d ∈ tables_1, d.before a0 Z = true) (ws : List Jvm.Cond) (r0 : Addr) (c0 c1 : Int32) (ta : Addr) (kb : ClassId) (cst : Int32) (fv : Value) (h0 : Heap) (n0 : Nat) (Z0 : n0 ≤ h0.size) (E0 : Exa Z h0 r0 "java/lang/String") (Fc : Fld Z h0 r0 "java/lang/String" "coder" "B" (.int (1 : Int32))) (Fv : Fld Z h0 r0 "java/lang/String" "value" "[B" (.ref ta)) (V0 : Arv Z h0 ta kb .byte (4 : Int32) [(.int (nar .byte ((c0 >>> ((0 : Int32) &&& 31)).toInt8.toInt32))), (.int (nar .byte ((c0 >>> ((8 : Int32) &&& 31)).toInt8.toInt32))), (.int (nar .byte ((c1 >>> ((0 : Int32) &&& 31)).toInt8.toInt32))), (.int (nar .byte ((c1 >>> ((8 : Int32) &&& 31)).toInt8.toInt32)))] (.int (0 : Int32))) (O0 : Old Z n0 h0) (hb0 : 0 ≤ c0.toInt ∧ c0.toInt ≤ 65535) (hb1 : 0 ≤ c1.toInt ∧ c1.toInt ≤ 65535) (SS : Sts Z cst fv) :
  MetFree l (⟨"com/example/wary_bearer/warybearer/http/Http1Reader", "isFieldValue", "(Ljava/lang/String;)Z"⟩ : MethodName) (head1 (Jvm.Cond.code (⟨"com/example/wary_bearer/warybearer/http/Http1Reader", "isFieldValue", "(Ljava/lang/String;)Z"⟩ : MethodName) prog_13_method_11_code 3 (some .boolean) :: ws) ({ frames := 5, cells := 0, slots := 0, locals := 66 } : Room)) (fun a U => a = #[(.ref r0)] ∧ Z.Warmed39 U.vm ∧ U.heap = h0) (fun _ _ _ _ _ => True) (fun _ U o U' => ∃ v L, o = .returned v ∧ QrmFVU2 Z r0 c0 c1 ta kb cst fv h0 n0 v U'.heap L ∧ FrameEnd U o U' L ({ frames := 5, cells := 0, slots := 0, locals := 66 } : Room).cells ({ frames := 5, cells := 0, slots := 0, locals := 66 } : Room).slots) := by
 refine MetFree.of_bodySF (plainFor_of_name pnc_com_example_wary_bearer_warybearer_http_Http1Reader) hisR ?_
 intro p e s m args below meth c s₁ Bd hml0 hP hK
 obtain ⟨rfl, hZ, hh⟩ := hP
 have hx := Bd.exec
 have hby := Bd.bytes
 have hml : c.maxLocals = 3 := hml0
 have hown : s.vm.findClass "com/example/wary_bearer/warybearer/http/Http1Reader" = some m.cls := findClass_of_methodNamed Bd.named
 have hnm := (name_of_methodNamed Bd.named Bd.method).1
 have X0 : Stand p l e ({ frames := 5, cells := 0, slots := 0, locals := 66 } : Room) s m #[(.ref r0)] below meth c s₁ [] 0 0 := Stand.of_body Bd
 have e0 : s₁.heap = h0 := by rw [← hh, Bd.state]; rfl
 have N0 := Fr.nil n0
 have kp0 : Keep h0 h0 [] := Keep.refl _ _
 have G0 : ∀ t, Steps p.tables e below (s₁.setTop (mkF m 0 #[rv r0, .unset, .unset] [])) t → Steps p.tables e below (s₁.setTop (entryFrame m #[(.ref r0)] 3)) t := fun t k => castTop (ef_rmFVU2 m r0) k
 obtain ⟨cq1, kq1, q1a, q1b, q1c⟩ := isOf hZ e0 E0
 obtain ⟨_, _, ⟨T1, L1, k1, n1⟩, -, X1, ⟨Lc1, hQ1, l1, y1, z1⟩, st1⟩ := X0.virtualBack hx (y := (⟨"java/lang/String", "length", "()I"⟩ : MethodName)) (z := (⟨"java/lang/String", "length", "()I"⟩ : MethodName)) hown (mvT hZ (hq hw 38 rfl)) (mvT hZ (hq hw 39 rfl)) (notFace_of_selects (args := #[]) (mvT hZ (hq hw 41 rfl))) (mvT hZ (hq hw 41 rfl)) (mvT hZ (hq hw 40 rfl)) (by decide) (backOf (W := 1) (rm9 l Z a0 hw [] r0 (1 : Int32) ta kb (4 : Int32) [(.int (nar .byte ((c0 >>> ((0 : Int32) &&& 31)).toInt8.toInt32))), (.int (nar .byte ((c0 >>> ((8 : Int32) &&& 31)).toInt8.toInt32))), (.int (nar .byte ((c1 >>> ((0 : Int32) &&& 31)).toInt8.toInt32))), (.int (nar .byte ((c1 >>> ((8 : Int32) &&& 31)).toInt8.toInt32)))] (2 : Int32) cst fv h0 n0 Z0 E0 Fc Fv V0 O0 (by decide) SS) hZ (hq hw 42 rfl) (hq hw 3 rfl) (by decide) (by decide)) q1a q1c (g := (mkF m 4 #[rv r0, iv 0, .unset] [(.ref r0), (.int (0 : Int32))])) rfl (by rw [hml]; rfl) (Steps.refl _) (argsL := []) (rest := [(.int (0 : Int32))]) (lenOf pd_14 rfl) rfl (by show 2 * 0 + _ ≤ _; exact Nat.le_of_eq rfl) (hb hby d8_4) (fun _ _ => ⟨rfl, e0, (by decide : 0 + 0 ≤ _), (by decide : 0 + 0 ≤ _)⟩)
 dsimp only [Pt.U, Pt.locs, Pt.cells, Pt.slots] at X1 l1 y1 z1 st1 hQ1
 subst l1 y1 z1
 obtain ⟨rfl, N1q, eh1⟩ := hQ1
 have N1 := Fr.app N0 N1q
 have G2 : ∀ t, Steps p.tables e below (T1.setTop (mkF m 7 #[rv r0, iv 0, .unset] [(.int (2 : Int32)), (.int (0 : Int32))])) t → Steps p.tables e below (s₁.setTop (entryFrame m #[(.ref r0)] 3)) t := by
  intro t kt
  refine G0 _ ?_
  refine XS.iconst X0.here hx rfl (hb hby d8_0) ?_
  refine XS.istoreN X0.here hx rfl (hb hby d8_1) rfl (l' := #[rv r0, iv 0, .unset]) rfl ?_
  refine XS.iloadN X0.here hx rfl (hb hby d8_2) rfl ?_
  refine XS.aloadN X0.here hx rfl (hb hby d8_3) rfl rfl ?_
  refine st1.trans ?_
  exact kt
 obtain ⟨cq3, kq3, q3a, q3b, q3c⟩ := isOf hZ eh1 E0
 obtain ⟨_, _, ⟨T3, L3, k3, n3⟩, -, X3, ⟨Lc3, hQ3, l3, y3, z3⟩, st3⟩ := X1.virtualBack hx (y := (⟨"java/lang/String", "charAt", "(I)C"⟩ : MethodName)) (z := (⟨"java/lang/String", "charAt", "(I)C"⟩ : MethodName)) hown (mvT hZ (hq hw 48 rfl)) (mvT hZ (hq hw 49 rfl)) (notFace_of_selects (args := #[]) (mvT hZ (hq hw 51 rfl))) (mvT hZ (hq hw 51 rfl)) (mvT hZ (hq hw 50 rfl)) (by decide) (backOf (W := 0) (rmChU l Z a0 hw [] r0 (0 : Int32) ta kb (4 : Int32) [(.int (nar .byte ((c0 >>> ((0 : Int32) &&& 31)).toInt8.toInt32))), (.int (nar .byte ((c0 >>> ((8 : Int32) &&& 31)).toInt8.toInt32))), (.int (nar .byte ((c1 >>> ((0 : Int32) &&& 31)).toInt8.toInt32))), (.int (nar .byte ((c1 >>> ((8 : Int32) &&& 31)).toInt8.toInt32)))] (nar .byte ((c0 >>> ((0 : Int32) &&& 31)).toInt8.toInt32)) (nar .byte ((c0 >>> ((8 : Int32) &&& 31)).toInt8.toInt32)) c0 cst fv h0 n0 Z0 E0 Fc Fv V0 O0 (by decide) (by decide) (by decide) (by decide) rfl rfl (own_utf c0 hb0) SS) hZ (hq hw 52 rfl) (hq hw 3 rfl) (by decide) (by decide)) q3a q3c (g := (mkF m 12 #[rv r0, iv 0, .unset] [(.int (0 : Int32)), (.ref r0)])) rfl (by rw [hml]; rfl) (Steps.refl _) (argsL := [(.int (0 : Int32))]) (rest := []) (lenOf pd_15 rfl) rfl (by show 2 * 0 + _ ≤ _; exact Nat.le_of_eq rfl) (hb hby d8_12) (fun _ _ => ⟨rfl, eh1, (by decide : 0 + 0 ≤ _), (by decide : 0 + 0 ≤ _)⟩)
 dsimp only [Pt.U, Pt.locs, Pt.cells, Pt.slots] at X3 l3 y3 z3 st3 hQ3
 subst l3 y3 z3
 obtain ⟨rfl, N3q, eh3⟩ := hQ3
 have N3 := Fr.app N1 N3q
 have G4 : ∀ t, Steps p.tables e below (T3.setTop (mkF m 19 #[rv r0, iv 0, iv c0] [(.int (32 : Int32)), (.int c0)])) t → Steps p.tables e below (s₁.setTop (entryFrame m #[(.ref r0)] 3)) t := by
  intro t kt
  refine G2 _ ?_
  refine XS.icmpNo X1.here hx rfl (hb hby d8_7) rfl (tlt (by decide)).2.1 ?_
  refine XS.aloadN X1.here hx rfl (hb hby d8_10) rfl rfl ?_
  refine XS.iloadN X1.here hx rfl (hb hby d8_11) rfl ?_
  refine st3.trans ?_
  refine XS.istoreN X3.here hx rfl (hb hby d8_15) rfl (l' := #[rv r0, iv 0, iv c0]) rfl ?_
  refine XS.iloadN X3.here hx rfl (hb hby d8_16) rfl ?_
  refine XS.bipush X3.here hx rfl (hb hby d8_17) ?_
  exact kt
 by_cases hc19_5 : c0 < (32 : Int32)
 ·skip
  have G6 : ∀ t, Steps p.tables e below (T3.setTop (mkF m 25 #[rv r0, iv 0, iv c0] [(.int (9 : Int32)), (.int c0)])) t → Steps p.tables e below (s₁.setTop (entryFrame m #[(.ref r0)] 3)) t := by
   intro t kt
   refine G4 _ ?_
   refine XS.icmpNo X3.here hx rfl (hb hby d8_19) rfl (tlt hc19_5).2.1 ?_
   refine XS.iloadN X3.here hx rfl (hb hby d8_22) rfl ?_
   refine XS.bipush X3.here hx rfl (hb hby d8_23) ?_
   exact kt
  by_cases hc25_7 : c0 = (9 : Int32)
  ·skip
   have G8 : ∀ t, Steps p.tables e below (T3.setTop (mkF m 31 #[rv r0, iv 0, iv c0] [(.int (127 : Int32)), (.int c0)])) t → Steps p.tables e below (s₁.setTop (entryFrame m #[(.ref r0)] 3)) t := by
    intro t kt
    refine G6 _ ?_
    refine XS.icmpNo X3.here hx rfl (hb hby d8_25) rfl (teq hc25_7).2 ?_
    refine XS.iloadN X3.here hx rfl (hb hby d8_28) rfl ?_
    refine XS.bipush X3.here hx rfl (hb hby d8_29) ?_
    exact kt
   by_cases hc31_9 : c0 = (127 : Int32)
   ·skip
    obtain ⟨fs, hr, hrun, hended, hW, hsame⟩ := X3.leave (v := some (.int (0 : Int32))) (fun h => by rw [Bd.returns] at h; cases h)
    refine ⟨_, _, G8 _ ?_, hrun, hended, _, _, rfl, ?_, ⟨_, rfl⟩, hW, hsame.mono (by decide) (by decide)⟩
    ·skip
     refine XS.icmpYes X3.here hx rfl (pc0 := 31) (pc' := 41) rfl (hb hby d8_31) rfl (teq hc31_9).1 (by decide) (by decide) ?_
     refine XS.iconst X3.here hx rfl (hb hby d8_41) ?_
     exact retN X3 hx (t := .boolean) Bd.returns (by simp) (hb hby d8_42) hr
    ·show QrmFVU2 Z r0 c0 c1 ta kb cst fv h0 n0 _ T3.heap _
     rw [eh3]
     exact ⟨by rw [own_fv, if_pos ((own_al c0).2 (by have q0 := hc19_5; have q1 := hc25_7; have q2 := hc31_9; simp only [Int32.lt_iff_toInt_lt, ← Int32.toInt_inj, own_k9, own_k32, own_k127, own_k255] at q0 q1 q2; omega))], N3, rfl⟩
   ·skip
    have G10 : ∀ t, Steps p.tables e below (T3.setTop (mkF m 38 #[rv r0, iv 0, iv c0] [(.int (255 : Int32)), (.int c0)])) t → Steps p.tables e below (s₁.setTop (entryFrame m #[(.ref r0)] 3)) t := by
     intro t kt
     refine G8 _ ?_
     refine XS.icmpNo X3.here hx rfl (hb hby d8_31) rfl (feq hc31_9).1 ?_
     refine XS.iloadN X3.here hx rfl (hb hby d8_34) rfl ?_
     refine XS.sipush X3.here hx rfl (hb hby d8_35) ?_
     exact kt
    by_cases hc38_11 : (255 : Int32) < c0
    ·skip
     obtain ⟨fs, hr, hrun, hended, hW, hsame⟩ := X3.leave (v := some (.int (0 : Int32))) (fun h => by rw [Bd.returns] at h; cases h)
     refine ⟨_, _, G10 _ ?_, hrun, hended, _, _, rfl, ?_, ⟨_, rfl⟩, hW, hsame.mono (by decide) (by decide)⟩
     ·skip
      refine XS.icmpNo X3.here hx rfl (hb hby d8_38) rfl (tlt hc38_11).2.2.2 ?_
      refine XS.iconst X3.here hx rfl (hb hby d8_41) ?_
      exact retN X3 hx (t := .boolean) Bd.returns (by simp) (hb hby d8_42) hr
     ·show QrmFVU2 Z r0 c0 c1 ta kb cst fv h0 n0 _ T3.heap _
      rw [eh3]
      exact ⟨by rw [own_fv, if_pos ((own_al c0).2 (by have q0 := hc19_5; have q1 := hc25_7; have q2 := hc31_9; have q3 := hc38_11; simp only [Int32.lt_iff_toInt_lt, ← Int32.toInt_inj, own_k9, own_k32, own_k127, own_k255] at q0 q1 q2 q3; omega))], N3, rfl⟩
    ·skip
     obtain ⟨cq12, kq12, q12a, q12b, q12c⟩ := isOf hZ eh3 E0
     obtain ⟨_, _, ⟨T12, L12, k12, n12⟩, -, X12, ⟨Lc12, hQ12, l12, y12, z12⟩, st12⟩ := X3.virtualBack hx (y := (⟨"java/lang/String", "length", "()I"⟩ : MethodName)) (z := (⟨"java/lang/String", "length", "()I"⟩ : MethodName)) hown (mvT hZ (hq hw 38 rfl)) (mvT hZ (hq hw 39 rfl)) (notFace_of_selects (args := #[]) (mvT hZ (hq hw 41 rfl))) (mvT hZ (hq hw 41 rfl)) (mvT hZ (hq hw 40 rfl)) (by decide) (backOf (W := 1) (rm9 l Z a0 hw [] r0 (1 : Int32) ta kb (4 : Int32) [(.int (nar .byte ((c0 >>> ((0 : Int32) &&& 31)).toInt8.toInt32))), (.int (nar .byte ((c0 >>> ((8 : Int32) &&& 31)).toInt8.toInt32))), (.int (nar .byte ((c1 >>> ((0 : Int32) &&& 31)).toInt8.toInt32))), (.int (nar .byte ((c1 >>> ((8 : Int32) &&& 31)).toInt8.toInt32)))] (2 : Int32) cst fv h0 n0 Z0 E0 Fc Fv V0 O0 (by decide) SS) hZ (hq hw 42 rfl) (hq hw 3 rfl) (by decide) (by decide)) q12a q12c (g := (mkF m 4 #[rv r0, iv 1, iv c0] [(.ref r0), (.int (1 : Int32))])) rfl (by rw [hml]; rfl) (Steps.refl _) (argsL := []) (rest := [(.int (1 : Int32))]) (lenOf pd_14 rfl) rfl (by show 2 * 0 + _ ≤ _; exact Nat.le_of_eq rfl) (hb hby d8_4) (fun _ _ => ⟨rfl, eh3, (by decide : 0 + 0 ≤ _), (by decide : 0 + 0 ≤ _)⟩)
     dsimp only [Pt.U, Pt.locs, Pt.cells, Pt.slots] at X12 l12 y12 z12 st12 hQ12
     subst l12 y12 z12
     obtain ⟨rfl, N12q, eh12⟩ := hQ12
     have N12 := Fr.app N3 N12q
     have G13 : ∀ t, Steps p.tables e below (T12.setTop (mkF m 7 #[rv r0, iv 1, iv c0] [(.int (2 : Int32)), (.int (1 : Int32))])) t → Steps p.tables e below (s₁.setTop (entryFrame m #[(.ref r0)] 3)) t := by
      intro t kt
      refine G10 _ ?_
      refine XS.icmpYes X3.here hx rfl (pc0 := 38) (pc' := 43) rfl (hb hby d8_38) rfl (flt hc38_11).2.2.2 (by decide) (by decide) ?_
      refine XS.iinc X3.here hx rfl (hb hby d8_43) rfl (l' := #[rv r0, iv 1, iv c0]) rfl ?_
      refine XS.goto X3.here hx rfl (pc0 := 46) (pc' := 2) rfl (hb hby d8_46) (by decide) (by decide) ?_
      show Steps p.tables e below (T3.setTop (mkF m 2 #[rv r0, iv 1, iv c0] [])) _
      refine XS.iloadN X3.here hx rfl (hb hby d8_2) rfl ?_
      refine XS.aloadN X3.here hx rfl (hb hby d8_3) rfl rfl ?_
      refine st12.trans ?_
      exact kt
     obtain ⟨cq14, kq14, q14a, q14b, q14c⟩ := isOf hZ eh12 E0
     obtain ⟨_, _, ⟨T14, L14, k14, n14⟩, -, X14, ⟨Lc14, hQ14, l14, y14, z14⟩, st14⟩ := X12.virtualBack hx (y := (⟨"java/lang/String", "charAt", "(I)C"⟩ : MethodName)) (z := (⟨"java/lang/String", "charAt", "(I)C"⟩ : MethodName)) hown (mvT hZ (hq hw 48 rfl)) (mvT hZ (hq hw 49 rfl)) (notFace_of_selects (args := #[]) (mvT hZ (hq hw 51 rfl))) (mvT hZ (hq hw 51 rfl)) (mvT hZ (hq hw 50 rfl)) (by decide) (backOf (W := 0) (rmChU l Z a0 hw [] r0 (1 : Int32) ta kb (4 : Int32) [(.int (nar .byte ((c0 >>> ((0 : Int32) &&& 31)).toInt8.toInt32))), (.int (nar .byte ((c0 >>> ((8 : Int32) &&& 31)).toInt8.toInt32))), (.int (nar .byte ((c1 >>> ((0 : Int32) &&& 31)).toInt8.toInt32))), (.int (nar .byte ((c1 >>> ((8 : Int32) &&& 31)).toInt8.toInt32)))] (nar .byte ((c1 >>> ((0 : Int32) &&& 31)).toInt8.toInt32)) (nar .byte ((c1 >>> ((8 : Int32) &&& 31)).toInt8.toInt32)) c1 cst fv h0 n0 Z0 E0 Fc Fv V0 O0 (by decide) (by decide) (by decide) (by decide) rfl rfl (own_utf c1 hb1) SS) hZ (hq hw 52 rfl) (hq hw 3 rfl) (by decide) (by decide)) q14a q14c (g := (mkF m 12 #[rv r0, iv 1, iv c0] [(.int (1 : Int32)), (.ref r0)])) rfl (by rw [hml]; rfl) (Steps.refl _) (argsL := [(.int (1 : Int32))]) (rest := []) (lenOf pd_15 rfl) rfl (by show 2 * 0 + _ ≤ _; exact Nat.le_of_eq rfl) (hb hby d8_12) (fun _ _ => ⟨rfl, eh12, (by decide : 0 + 0 ≤ _), (by decide : 0 + 0 ≤ _)⟩)
     dsimp only [Pt.U, Pt.locs, Pt.cells, Pt.slots] at X14 l14 y14 z14 st14 hQ14
     subst l14 y14 z14
     obtain ⟨rfl, N14q, eh14⟩ := hQ14
     have N14 := Fr.app N12 N14q
     have G15 : ∀ t, Steps p.tables e below (T14.setTop (mkF m 19 #[rv r0, iv 1, iv c1] [(.int (32 : Int32)), (.int c1)])) t → Steps p.tables e below (s₁.setTop (entryFrame m #[(.ref r0)] 3)) t := by
      intro t kt
      refine G13 _ ?_
      refine XS.icmpNo X12.here hx rfl (hb hby d8_7) rfl (tlt (by decide)).2.1 ?_
      refine XS.aloadN X12.here hx rfl (hb hby d8_10) rfl rfl ?_
      refine XS.iloadN X12.here hx rfl (hb hby d8_11) rfl ?_
      refine st14.trans ?_
      refine XS.istoreN X14.here hx rfl (hb hby d8_15) rfl (l' := #[rv r0, iv 1, iv c1]) rfl ?_
      refine XS.iloadN X14.here hx rfl (hb hby d8_16) rfl ?_
      refine XS.bipush X14.here hx rfl (hb hby d8_17) ?_
      exact kt
     by_cases hc19_16 : c1 < (32 : Int32)
     ·skip
      have G17 : ∀ t, Steps p.tables e below (T14.setTop (mkF m 25 #[rv r0, iv 1, iv c1] [(.int (9 : Int32)), (.int c1)])) t → Steps p.tables e below (s₁.setTop (entryFrame m #[(.ref r0)] 3)) t := by
       intro t kt
       refine G15 _ ?_
       refine XS.icmpNo X14.here hx rfl (hb hby d8_19) rfl (tlt hc19_16).2.1 ?_
       refine XS.iloadN X14.here hx rfl (hb hby d8_22) rfl ?_
       refine XS.bipush X14.here hx rfl (hb hby d8_23) ?_
       exact kt
      by_cases hc25_18 : c1 = (9 : Int32)
      ·skip
       have G19 : ∀ t, Steps p.tables e below (T14.setTop (mkF m 31 #[rv r0, iv 1, iv c1] [(.int (127 : Int32)), (.int c1)])) t → Steps p.tables e below (s₁.setTop (entryFrame m #[(.ref r0)] 3)) t := by
        intro t kt
        refine G17 _ ?_
        refine XS.icmpNo X14.here hx rfl (hb hby d8_25) rfl (teq hc25_18).2 ?_
        refine XS.iloadN X14.here hx rfl (hb hby d8_28) rfl ?_
        refine XS.bipush X14.here hx rfl (hb hby d8_29) ?_
        exact kt
       by_cases hc31_20 : c1 = (127 : Int32)
       ·skip
        obtain ⟨fs, hr, hrun, hended, hW, hsame⟩ := X14.leave (v := some (.int (0 : Int32))) (fun h => by rw [Bd.returns] at h; cases h)
        refine ⟨_, _, G19 _ ?_, hrun, hended, _, _, rfl, ?_, ⟨_, rfl⟩, hW, hsame.mono (by decide) (by decide)⟩
        ·skip
         refine XS.icmpYes X14.here hx rfl (pc0 := 31) (pc' := 41) rfl (hb hby d8_31) rfl (teq hc31_20).1 (by decide) (by decide) ?_
         refine XS.iconst X14.here hx rfl (hb hby d8_41) ?_
         exact retN X14 hx (t := .boolean) Bd.returns (by simp) (hb hby d8_42) hr
        ·show QrmFVU2 Z r0 c0 c1 ta kb cst fv h0 n0 _ T14.heap _
         rw [eh14]
         exact ⟨by rw [own_fv, if_neg ((own_al c0).1 (by have q0 := hc19_5; have q1 := hc25_7; have q2 := hc31_9; have q3 := hc38_11; simp only [Int32.lt_iff_toInt_lt, ← Int32.toInt_inj, own_k9, own_k32, own_k127, own_k255] at q0 q1 q2 q3; omega)), own_fv, if_pos ((own_al c1).2 (by have q0 := hc19_16; have q1 := hc25_18; have q2 := hc31_20; simp only [Int32.lt_iff_toInt_lt, ← Int32.toInt_inj, own_k9, own_k32, own_k127, own_k255] at q0 q1 q2; omega))], N14, rfl⟩
       ·skip
        have G21 : ∀ t, Steps p.tables e below (T14.setTop (mkF m 38 #[rv r0, iv 1, iv c1] [(.int (255 : Int32)), (.int c1)])) t → Steps p.tables e below (s₁.setTop (entryFrame m #[(.ref r0)] 3)) t := by
         intro t kt
         refine G19 _ ?_
         refine XS.icmpNo X14.here hx rfl (hb hby d8_31) rfl (feq hc31_20).1 ?_
         refine XS.iloadN X14.here hx rfl (hb hby d8_34) rfl ?_
         refine XS.sipush X14.here hx rfl (hb hby d8_35) ?_
         exact kt
        by_cases hc38_22 : (255 : Int32) < c1
        ·skip
         obtain ⟨fs, hr, hrun, hended, hW, hsame⟩ := X14.leave (v := some (.int (0 : Int32))) (fun h => by rw [Bd.returns] at h; cases h)
         refine ⟨_, _, G21 _ ?_, hrun, hended, _, _, rfl, ?_, ⟨_, rfl⟩, hW, hsame.mono (by decide) (by decide)⟩
         ·skip
          refine XS.icmpNo X14.here hx rfl (hb hby d8_38) rfl (tlt hc38_22).2.2.2 ?_
          refine XS.iconst X14.here hx rfl (hb hby d8_41) ?_
          exact retN X14 hx (t := .boolean) Bd.returns (by simp) (hb hby d8_42) hr
         ·show QrmFVU2 Z r0 c0 c1 ta kb cst fv h0 n0 _ T14.heap _
          rw [eh14]
          exact ⟨by rw [own_fv, if_neg ((own_al c0).1 (by have q0 := hc19_5; have q1 := hc25_7; have q2 := hc31_9; have q3 := hc38_11; simp only [Int32.lt_iff_toInt_lt, ← Int32.toInt_inj, own_k9, own_k32, own_k127, own_k255] at q0 q1 q2 q3; omega)), own_fv, if_pos ((own_al c1).2 (by have q0 := hc19_16; have q1 := hc25_18; have q2 := hc31_20; have q3 := hc38_22; simp only [Int32.lt_iff_toInt_lt, ← Int32.toInt_inj, own_k9, own_k32, own_k127, own_k255] at q0 q1 q2 q3; omega))], N14, rfl⟩
        ·skip
         obtain ⟨cq23, kq23, q23a, q23b, q23c⟩ := isOf hZ eh14 E0
         obtain ⟨_, _, ⟨T23, L23, k23, n23⟩, -, X23, ⟨Lc23, hQ23, l23, y23, z23⟩, st23⟩ := X14.virtualBack hx (y := (⟨"java/lang/String", "length", "()I"⟩ : MethodName)) (z := (⟨"java/lang/String", "length", "()I"⟩ : MethodName)) hown (mvT hZ (hq hw 38 rfl)) (mvT hZ (hq hw 39 rfl)) (notFace_of_selects (args := #[]) (mvT hZ (hq hw 41 rfl))) (mvT hZ (hq hw 41 rfl)) (mvT hZ (hq hw 40 rfl)) (by decide) (backOf (W := 1) (rm9 l Z a0 hw [] r0 (1 : Int32) ta kb (4 : Int32) [(.int (nar .byte ((c0 >>> ((0 : Int32) &&& 31)).toInt8.toInt32))), (.int (nar .byte ((c0 >>> ((8 : Int32) &&& 31)).toInt8.toInt32))), (.int (nar .byte ((c1 >>> ((0 : Int32) &&& 31)).toInt8.toInt32))), (.int (nar .byte ((c1 >>> ((8 : Int32) &&& 31)).toInt8.toInt32)))] (2 : Int32) cst fv h0 n0 Z0 E0 Fc Fv V0 O0 (by decide) SS) hZ (hq hw 42 rfl) (hq hw 3 rfl) (by decide) (by decide)) q23a q23c (g := (mkF m 4 #[rv r0, iv 2, iv c1] [(.ref r0), (.int (2 : Int32))])) rfl (by rw [hml]; rfl) (Steps.refl _) (argsL := []) (rest := [(.int (2 : Int32))]) (lenOf pd_14 rfl) rfl (by show 2 * 0 + _ ≤ _; exact Nat.le_of_eq rfl) (hb hby d8_4) (fun _ _ => ⟨rfl, eh14, (by decide : 0 + 0 ≤ _), (by decide : 0 + 0 ≤ _)⟩)
         dsimp only [Pt.U, Pt.locs, Pt.cells, Pt.slots] at X23 l23 y23 z23 st23 hQ23
         subst l23 y23 z23
         obtain ⟨rfl, N23q, eh23⟩ := hQ23
         have N23 := Fr.app N14 N23q
         have G24 : ∀ t, Steps p.tables e below (T23.setTop (mkF m 7 #[rv r0, iv 2, iv c1] [(.int (2 : Int32)), (.int (2 : Int32))])) t → Steps p.tables e below (s₁.setTop (entryFrame m #[(.ref r0)] 3)) t := by
          intro t kt
          refine G21 _ ?_
          refine XS.icmpYes X14.here hx rfl (pc0 := 38) (pc' := 43) rfl (hb hby d8_38) rfl (flt hc38_22).2.2.2 (by decide) (by decide) ?_
          refine XS.iinc X14.here hx rfl (hb hby d8_43) rfl (l' := #[rv r0, iv 2, iv c1]) rfl ?_
          refine XS.goto X14.here hx rfl (pc0 := 46) (pc' := 2) rfl (hb hby d8_46) (by decide) (by decide) ?_
          refine XS.iloadN X14.here hx rfl (hb hby d8_2) rfl ?_
          refine XS.aloadN X14.here hx rfl (hb hby d8_3) rfl rfl ?_
          refine st23.trans ?_
          exact kt
         obtain ⟨fs, hr, hrun, hended, hW, hsame⟩ := X23.leave (v := some (.int (1 : Int32))) (fun h => by rw [Bd.returns] at h; cases h)
         refine ⟨_, _, G24 _ ?_, hrun, hended, _, _, rfl, ?_, ⟨_, rfl⟩, hW, hsame.mono (by decide) (by decide)⟩
         ·skip
          refine XS.icmpYes X23.here hx rfl (pc0 := 7) (pc' := 49) rfl (hb hby d8_7) rfl (flt (by decide)).2.1 (by decide) (by decide) ?_
          show Steps p.tables e below (T23.setTop (mkF m 49 #[rv r0, iv 2, iv c1] [])) _
          refine XS.iconst X23.here hx rfl (hb hby d8_49) ?_
          exact retN X23 hx (t := .boolean) Bd.returns (by simp) (hb hby d8_50) hr
         ·show QrmFVU2 Z r0 c0 c1 ta kb cst fv h0 n0 _ T23.heap _
          rw [eh23]
          exact ⟨by rw [own_fv, if_neg ((own_al c0).1 (by have q0 := hc19_5; have q1 := hc25_7; have q2 := hc31_9; have q3 := hc38_11; simp only [Int32.lt_iff_toInt_lt, ← Int32.toInt_inj, own_k9, own_k32, own_k127, own_k255] at q0 q1 q2 q3; omega)), own_fv, if_neg ((own_al c1).1 (by have q0 := hc19_16; have q1 := hc25_18; have q2 := hc31_20; have q3 := hc38_22; simp only [Int32.lt_iff_toInt_lt, ← Int32.toInt_inj, own_k9, own_k32, own_k127, own_k255] at q0 q1 q2 q3; omega)), own_fv], N23, rfl⟩
      ·skip
       obtain ⟨fs, hr, hrun, hended, hW, hsame⟩ := X14.leave (v := some (.int (0 : Int32))) (fun h => by rw [Bd.returns] at h; cases h)
       refine ⟨_, _, G17 _ ?_, hrun, hended, _, _, rfl, ?_, ⟨_, rfl⟩, hW, hsame.mono (by decide) (by decide)⟩
       ·skip
        refine XS.icmpYes X14.here hx rfl (pc0 := 25) (pc' := 41) rfl (hb hby d8_25) rfl (feq hc25_18).2 (by decide) (by decide) ?_
        refine XS.iconst X14.here hx rfl (hb hby d8_41) ?_
        exact retN X14 hx (t := .boolean) Bd.returns (by simp) (hb hby d8_42) hr
       ·show QrmFVU2 Z r0 c0 c1 ta kb cst fv h0 n0 _ T14.heap _
        rw [eh14]
        exact ⟨by rw [own_fv, if_neg ((own_al c0).1 (by have q0 := hc19_5; have q1 := hc25_7; have q2 := hc31_9; have q3 := hc38_11; simp only [Int32.lt_iff_toInt_lt, ← Int32.toInt_inj, own_k9, own_k32, own_k127, own_k255] at q0 q1 q2 q3; omega)), own_fv, if_pos ((own_al c1).2 (by have q0 := hc19_16; have q1 := hc25_18; simp only [Int32.lt_iff_toInt_lt, ← Int32.toInt_inj, own_k9, own_k32, own_k127, own_k255] at q0 q1; omega))], N14, rfl⟩
     ·skip
      have G25 : ∀ t, Steps p.tables e below (T14.setTop (mkF m 31 #[rv r0, iv 1, iv c1] [(.int (127 : Int32)), (.int c1)])) t → Steps p.tables e below (s₁.setTop (entryFrame m #[(.ref r0)] 3)) t := by
       intro t kt
       refine G15 _ ?_
       refine XS.icmpYes X14.here hx rfl (pc0 := 19) (pc' := 28) rfl (hb hby d8_19) rfl (flt hc19_16).2.1 (by decide) (by decide) ?_
       refine XS.iloadN X14.here hx rfl (hb hby d8_28) rfl ?_
       refine XS.bipush X14.here hx rfl (hb hby d8_29) ?_
       exact kt
      by_cases hc31_26 : c1 = (127 : Int32)
      ·skip
       obtain ⟨fs, hr, hrun, hended, hW, hsame⟩ := X14.leave (v := some (.int (0 : Int32))) (fun h => by rw [Bd.returns] at h; cases h)
       refine ⟨_, _, G25 _ ?_, hrun, hended, _, _, rfl, ?_, ⟨_, rfl⟩, hW, hsame.mono (by decide) (by decide)⟩
       ·skip
        refine XS.icmpYes X14.here hx rfl (pc0 := 31) (pc' := 41) rfl (hb hby d8_31) rfl (teq hc31_26).1 (by decide) (by decide) ?_
        refine XS.iconst X14.here hx rfl (hb hby d8_41) ?_
        exact retN X14 hx (t := .boolean) Bd.returns (by simp) (hb hby d8_42) hr
       ·show QrmFVU2 Z r0 c0 c1 ta kb cst fv h0 n0 _ T14.heap _
        rw [eh14]
        exact ⟨by rw [own_fv, if_neg ((own_al c0).1 (by have q0 := hc19_5; have q1 := hc25_7; have q2 := hc31_9; have q3 := hc38_11; simp only [Int32.lt_iff_toInt_lt, ← Int32.toInt_inj, own_k9, own_k32, own_k127, own_k255] at q0 q1 q2 q3; omega)), own_fv, if_pos ((own_al c1).2 (by have q0 := hc19_16; have q1 := hc31_26; simp only [Int32.lt_iff_toInt_lt, ← Int32.toInt_inj, own_k9, own_k32, own_k127, own_k255] at q0 q1; omega))], N14, rfl⟩
      ·skip
       have G27 : ∀ t, Steps p.tables e below (T14.setTop (mkF m 38 #[rv r0, iv 1, iv c1] [(.int (255 : Int32)), (.int c1)])) t → Steps p.tables e below (s₁.setTop (entryFrame m #[(.ref r0)] 3)) t := by
        intro t kt
        refine G25 _ ?_
        refine XS.icmpNo X14.here hx rfl (hb hby d8_31) rfl (feq hc31_26).1 ?_
        refine XS.iloadN X14.here hx rfl (hb hby d8_34) rfl ?_
        refine XS.sipush X14.here hx rfl (hb hby d8_35) ?_
        exact kt
       by_cases hc38_28 : (255 : Int32) < c1
       ·skip
        obtain ⟨fs, hr, hrun, hended, hW, hsame⟩ := X14.leave (v := some (.int (0 : Int32))) (fun h => by rw [Bd.returns] at h; cases h)
        refine ⟨_, _, G27 _ ?_, hrun, hended, _, _, rfl, ?_, ⟨_, rfl⟩, hW, hsame.mono (by decide) (by decide)⟩
        ·skip
         refine XS.icmpNo X14.here hx rfl (hb hby d8_38) rfl (tlt hc38_28).2.2.2 ?_
         refine XS.iconst X14.here hx rfl (hb hby d8_41) ?_
         exact retN X14 hx (t := .boolean) Bd.returns (by simp) (hb hby d8_42) hr
        ·show QrmFVU2 Z r0 c0 c1 ta kb cst fv h0 n0 _ T14.heap _
         rw [eh14]
         exact ⟨by rw [own_fv, if_neg ((own_al c0).1 (by have q0 := hc19_5; have q1 := hc25_7; have q2 := hc31_9; have q3 := hc38_11; simp only [Int32.lt_iff_toInt_lt, ← Int32.toInt_inj, own_k9, own_k32, own_k127, own_k255] at q0 q1 q2 q3; omega)), own_fv, if_pos ((own_al c1).2 (by have q0 := hc19_16; have q1 := hc31_26; have q2 := hc38_28; simp only [Int32.lt_iff_toInt_lt, ← Int32.toInt_inj, own_k9, own_k32, own_k127, own_k255] at q0 q1 q2; omega))], N14, rfl⟩
       ·skip
        obtain ⟨cq29, kq29, q29a, q29b, q29c⟩ := isOf hZ eh14 E0
        obtain ⟨_, _, ⟨T29, L29, k29, n29⟩, -, X29, ⟨Lc29, hQ29, l29, y29, z29⟩, st29⟩ := X14.virtualBack hx (y := (⟨"java/lang/String", "length", "()I"⟩ : MethodName)) (z := (⟨"java/lang/String", "length", "()I"⟩ : MethodName)) hown (mvT hZ (hq hw 38 rfl)) (mvT hZ (hq hw 39 rfl)) (notFace_of_selects (args := #[]) (mvT hZ (hq hw 41 rfl))) (mvT hZ (hq hw 41 rfl)) (mvT hZ (hq hw 40 rfl)) (by decide) (backOf (W := 1) (rm9 l Z a0 hw [] r0 (1 : Int32) ta kb (4 : Int32) [(.int (nar .byte ((c0 >>> ((0 : Int32) &&& 31)).toInt8.toInt32))), (.int (nar .byte ((c0 >>> ((8 : Int32) &&& 31)).toInt8.toInt32))), (.int (nar .byte ((c1 >>> ((0 : Int32) &&& 31)).toInt8.toInt32))), (.int (nar .byte ((c1 >>> ((8 : Int32) &&& 31)).toInt8.toInt32)))] (2 : Int32) cst fv h0 n0 Z0 E0 Fc Fv V0 O0 (by decide) SS) hZ (hq hw 42 rfl) (hq hw 3 rfl) (by decide) (by decide)) q29a q29c (g := (mkF m 4 #[rv r0, iv 2, iv c1] [(.ref r0), (.int (2 : Int32))])) rfl (by rw [hml]; rfl) (Steps.refl _) (argsL := []) (rest := [(.int (2 : Int32))]) (lenOf pd_14 rfl) rfl (by show 2 * 0 + _ ≤ _; exact Nat.le_of_eq rfl) (hb hby d8_4) (fun _ _ => ⟨rfl, eh14, (by decide : 0 + 0 ≤ _), (by decide : 0 + 0 ≤ _)⟩)
        dsimp only [Pt.U, Pt.locs, Pt.cells, Pt.slots] at X29 l29 y29 z29 st29 hQ29
        subst l29 y29 z29
        obtain ⟨rfl, N29q, eh29⟩ := hQ29
        have N29 := Fr.app N14 N29q
        have G30 : ∀ t, Steps p.tables e below (T29.setTop (mkF m 7 #[rv r0, iv 2, iv c1] [(.int (2 : Int32)), (.int (2 : Int32))])) t → Steps p.tables e below (s₁.setTop (entryFrame m #[(.ref r0)] 3)) t := by
         intro t kt
         refine G27 _ ?_
         refine XS.icmpYes X14.here hx rfl (pc0 := 38) (pc' := 43) rfl (hb hby d8_38) rfl (flt hc38_28).2.2.2 (by decide) (by decide) ?_
         refine XS.iinc X14.here hx rfl (hb hby d8_43) rfl (l' := #[rv r0, iv 2, iv c1]) rfl ?_
         refine XS.goto X14.here hx rfl (pc0 := 46) (pc' := 2) rfl (hb hby d8_46) (by decide) (by decide) ?_
         refine XS.iloadN X14.here hx rfl (hb hby d8_2) rfl ?_
         refine XS.aloadN X14.here hx rfl (hb hby d8_3) rfl rfl ?_
         refine st29.trans ?_
         exact kt
        obtain ⟨fs, hr, hrun, hended, hW, hsame⟩ := X29.leave (v := some (.int (1 : Int32))) (fun h => by rw [Bd.returns] at h; cases h)
        refine ⟨_, _, G30 _ ?_, hrun, hended, _, _, rfl, ?_, ⟨_, rfl⟩, hW, hsame.mono (by decide) (by decide)⟩
        ·skip
         refine XS.icmpYes X29.here hx rfl (pc0 := 7) (pc' := 49) rfl (hb hby d8_7) rfl (flt (by decide)).2.1 (by decide) (by decide) ?_
         refine XS.iconst X29.here hx rfl (hb hby d8_49) ?_
         exact retN X29 hx (t := .boolean) Bd.returns (by simp) (hb hby d8_50) hr
        ·show QrmFVU2 Z r0 c0 c1 ta kb cst fv h0 n0 _ T29.heap _
         rw [eh29]
         exact ⟨by rw [own_fv, if_neg ((own_al c0).1 (by have q0 := hc19_5; have q1 := hc25_7; have q2 := hc31_9; have q3 := hc38_11; simp only [Int32.lt_iff_toInt_lt, ← Int32.toInt_inj, own_k9, own_k32, own_k127, own_k255] at q0 q1 q2 q3; omega)), own_fv, if_neg ((own_al c1).1 (by have q0 := hc19_16; have q1 := hc31_26; have q2 := hc38_28; simp only [Int32.lt_iff_toInt_lt, ← Int32.toInt_inj, own_k9, own_k32, own_k127, own_k255] at q0 q1 q2; omega)), own_fv], N29, rfl⟩
  ·skip
   obtain ⟨fs, hr, hrun, hended, hW, hsame⟩ := X3.leave (v := some (.int (0 : Int32))) (fun h => by rw [Bd.returns] at h; cases h)
   refine ⟨_, _, G6 _ ?_, hrun, hended, _, _, rfl, ?_, ⟨_, rfl⟩, hW, hsame.mono (by decide) (by decide)⟩
   ·skip
    refine XS.icmpYes X3.here hx rfl (pc0 := 25) (pc' := 41) rfl (hb hby d8_25) rfl (feq hc25_7).2 (by decide) (by decide) ?_
    refine XS.iconst X3.here hx rfl (hb hby d8_41) ?_
    exact retN X3 hx (t := .boolean) Bd.returns (by simp) (hb hby d8_42) hr
   ·show QrmFVU2 Z r0 c0 c1 ta kb cst fv h0 n0 _ T3.heap _
    rw [eh3]
    exact ⟨by rw [own_fv, if_pos ((own_al c0).2 (by have q0 := hc19_5; have q1 := hc25_7; simp only [Int32.lt_iff_toInt_lt, ← Int32.toInt_inj, own_k9, own_k32, own_k127, own_k255] at q0 q1; omega))], N3, rfl⟩
 ·skip
  have G31 : ∀ t, Steps p.tables e below (T3.setTop (mkF m 31 #[rv r0, iv 0, iv c0] [(.int (127 : Int32)), (.int c0)])) t → Steps p.tables e below (s₁.setTop (entryFrame m #[(.ref r0)] 3)) t := by
   intro t kt
   refine G4 _ ?_
   refine XS.icmpYes X3.here hx rfl (pc0 := 19) (pc' := 28) rfl (hb hby d8_19) rfl (flt hc19_5).2.1 (by decide) (by decide) ?_
   refine XS.iloadN X3.here hx rfl (hb hby d8_28) rfl ?_
   refine XS.bipush X3.here hx rfl (hb hby d8_29) ?_
   exact kt
  by_cases hc31_32 : c0 = (127 : Int32)
  ·skip
   obtain ⟨fs, hr, hrun, hended, hW, hsame⟩ := X3.leave (v := some (.int (0 : Int32))) (fun h => by rw [Bd.returns] at h; cases h)
   refine ⟨_, _, G31 _ ?_, hrun, hended, _, _, rfl, ?_, ⟨_, rfl⟩, hW, hsame.mono (by decide) (by decide)⟩
   ·skip
    refine XS.icmpYes X3.here hx rfl (pc0 := 31) (pc' := 41) rfl (hb hby d8_31) rfl (teq hc31_32).1 (by decide) (by decide) ?_
    refine XS.iconst X3.here hx rfl (hb hby d8_41) ?_
    exact retN X3 hx (t := .boolean) Bd.returns (by simp) (hb hby d8_42) hr
   ·show QrmFVU2 Z r0 c0 c1 ta kb cst fv h0 n0 _ T3.heap _
    rw [eh3]
    exact ⟨by rw [own_fv, if_pos ((own_al c0).2 (by have q0 := hc19_5; have q1 := hc31_32; simp only [Int32.lt_iff_toInt_lt, ← Int32.toInt_inj, own_k9, own_k32, own_k127, own_k255] at q0 q1; omega))], N3, rfl⟩
  ·skip
   have G33 : ∀ t, Steps p.tables e below (T3.setTop (mkF m 38 #[rv r0, iv 0, iv c0] [(.int (255 : Int32)), (.int c0)])) t → Steps p.tables e below (s₁.setTop (entryFrame m #[(.ref r0)] 3)) t := by
    intro t kt
    refine G31 _ ?_
    refine XS.icmpNo X3.here hx rfl (hb hby d8_31) rfl (feq hc31_32).1 ?_
    refine XS.iloadN X3.here hx rfl (hb hby d8_34) rfl ?_
    refine XS.sipush X3.here hx rfl (hb hby d8_35) ?_
    exact kt
   by_cases hc38_34 : (255 : Int32) < c0
   ·skip
    obtain ⟨fs, hr, hrun, hended, hW, hsame⟩ := X3.leave (v := some (.int (0 : Int32))) (fun h => by rw [Bd.returns] at h; cases h)
    refine ⟨_, _, G33 _ ?_, hrun, hended, _, _, rfl, ?_, ⟨_, rfl⟩, hW, hsame.mono (by decide) (by decide)⟩
    ·skip
     refine XS.icmpNo X3.here hx rfl (hb hby d8_38) rfl (tlt hc38_34).2.2.2 ?_
     refine XS.iconst X3.here hx rfl (hb hby d8_41) ?_
     exact retN X3 hx (t := .boolean) Bd.returns (by simp) (hb hby d8_42) hr
    ·show QrmFVU2 Z r0 c0 c1 ta kb cst fv h0 n0 _ T3.heap _
     rw [eh3]
     exact ⟨by rw [own_fv, if_pos ((own_al c0).2 (by have q0 := hc19_5; have q1 := hc31_32; have q2 := hc38_34; simp only [Int32.lt_iff_toInt_lt, ← Int32.toInt_inj, own_k9, own_k32, own_k127, own_k255] at q0 q1 q2; omega))], N3, rfl⟩
   ·skip
    obtain ⟨cq35, kq35, q35a, q35b, q35c⟩ := isOf hZ eh3 E0
    obtain ⟨_, _, ⟨T35, L35, k35, n35⟩, -, X35, ⟨Lc35, hQ35, l35, y35, z35⟩, st35⟩ := X3.virtualBack hx (y := (⟨"java/lang/String", "length", "()I"⟩ : MethodName)) (z := (⟨"java/lang/String", "length", "()I"⟩ : MethodName)) hown (mvT hZ (hq hw 38 rfl)) (mvT hZ (hq hw 39 rfl)) (notFace_of_selects (args := #[]) (mvT hZ (hq hw 41 rfl))) (mvT hZ (hq hw 41 rfl)) (mvT hZ (hq hw 40 rfl)) (by decide) (backOf (W := 1) (rm9 l Z a0 hw [] r0 (1 : Int32) ta kb (4 : Int32) [(.int (nar .byte ((c0 >>> ((0 : Int32) &&& 31)).toInt8.toInt32))), (.int (nar .byte ((c0 >>> ((8 : Int32) &&& 31)).toInt8.toInt32))), (.int (nar .byte ((c1 >>> ((0 : Int32) &&& 31)).toInt8.toInt32))), (.int (nar .byte ((c1 >>> ((8 : Int32) &&& 31)).toInt8.toInt32)))] (2 : Int32) cst fv h0 n0 Z0 E0 Fc Fv V0 O0 (by decide) SS) hZ (hq hw 42 rfl) (hq hw 3 rfl) (by decide) (by decide)) q35a q35c (g := (mkF m 4 #[rv r0, iv 1, iv c0] [(.ref r0), (.int (1 : Int32))])) rfl (by rw [hml]; rfl) (Steps.refl _) (argsL := []) (rest := [(.int (1 : Int32))]) (lenOf pd_14 rfl) rfl (by show 2 * 0 + _ ≤ _; exact Nat.le_of_eq rfl) (hb hby d8_4) (fun _ _ => ⟨rfl, eh3, (by decide : 0 + 0 ≤ _), (by decide : 0 + 0 ≤ _)⟩)
    dsimp only [Pt.U, Pt.locs, Pt.cells, Pt.slots] at X35 l35 y35 z35 st35 hQ35
    subst l35 y35 z35
    obtain ⟨rfl, N35q, eh35⟩ := hQ35
    have N35 := Fr.app N3 N35q
    have G36 : ∀ t, Steps p.tables e below (T35.setTop (mkF m 7 #[rv r0, iv 1, iv c0] [(.int (2 : Int32)), (.int (1 : Int32))])) t → Steps p.tables e below (s₁.setTop (entryFrame m #[(.ref r0)] 3)) t := by
     intro t kt
     refine G33 _ ?_
     refine XS.icmpYes X3.here hx rfl (pc0 := 38) (pc' := 43) rfl (hb hby d8_38) rfl (flt hc38_34).2.2.2 (by decide) (by decide) ?_
     refine XS.iinc X3.here hx rfl (hb hby d8_43) rfl (l' := #[rv r0, iv 1, iv c0]) rfl ?_
     refine XS.goto X3.here hx rfl (pc0 := 46) (pc' := 2) rfl (hb hby d8_46) (by decide) (by decide) ?_
     refine XS.iloadN X3.here hx rfl (hb hby d8_2) rfl ?_
     refine XS.aloadN X3.here hx rfl (hb hby d8_3) rfl rfl ?_
     show Steps p.tables e below (T3.setTop (mkF m 4 #[rv r0, iv 1, iv c0] [(.ref r0), (.int (1 : Int32))])) _
     refine st35.trans ?_
     exact kt
    obtain ⟨cq37, kq37, q37a, q37b, q37c⟩ := isOf hZ eh35 E0
    obtain ⟨_, _, ⟨T37, L37, k37, n37⟩, -, X37, ⟨Lc37, hQ37, l37, y37, z37⟩, st37⟩ := X35.virtualBack hx (y := (⟨"java/lang/String", "charAt", "(I)C"⟩ : MethodName)) (z := (⟨"java/lang/String", "charAt", "(I)C"⟩ : MethodName)) hown (mvT hZ (hq hw 48 rfl)) (mvT hZ (hq hw 49 rfl)) (notFace_of_selects (args := #[]) (mvT hZ (hq hw 51 rfl))) (mvT hZ (hq hw 51 rfl)) (mvT hZ (hq hw 50 rfl)) (by decide) (backOf (W := 0) (rmChU l Z a0 hw [] r0 (1 : Int32) ta kb (4 : Int32) [(.int (nar .byte ((c0 >>> ((0 : Int32) &&& 31)).toInt8.toInt32))), (.int (nar .byte ((c0 >>> ((8 : Int32) &&& 31)).toInt8.toInt32))), (.int (nar .byte ((c1 >>> ((0 : Int32) &&& 31)).toInt8.toInt32))), (.int (nar .byte ((c1 >>> ((8 : Int32) &&& 31)).toInt8.toInt32)))] (nar .byte ((c1 >>> ((0 : Int32) &&& 31)).toInt8.toInt32)) (nar .byte ((c1 >>> ((8 : Int32) &&& 31)).toInt8.toInt32)) c1 cst fv h0 n0 Z0 E0 Fc Fv V0 O0 (by decide) (by decide) (by decide) (by decide) rfl rfl (own_utf c1 hb1) SS) hZ (hq hw 52 rfl) (hq hw 3 rfl) (by decide) (by decide)) q37a q37c (g := (mkF m 12 #[rv r0, iv 1, iv c0] [(.int (1 : Int32)), (.ref r0)])) rfl (by rw [hml]; rfl) (Steps.refl _) (argsL := [(.int (1 : Int32))]) (rest := []) (lenOf pd_15 rfl) rfl (by show 2 * 0 + _ ≤ _; exact Nat.le_of_eq rfl) (hb hby d8_12) (fun _ _ => ⟨rfl, eh35, (by decide : 0 + 0 ≤ _), (by decide : 0 + 0 ≤ _)⟩)
    dsimp only [Pt.U, Pt.locs, Pt.cells, Pt.slots] at X37 l37 y37 z37 st37 hQ37
    subst l37 y37 z37
    obtain ⟨rfl, N37q, eh37⟩ := hQ37
    have N37 := Fr.app N35 N37q
    have G38 : ∀ t, Steps p.tables e below (T37.setTop (mkF m 19 #[rv r0, iv 1, iv c1] [(.int (32 : Int32)), (.int c1)])) t → Steps p.tables e below (s₁.setTop (entryFrame m #[(.ref r0)] 3)) t := by
     intro t kt
     refine G36 _ ?_
     refine XS.icmpNo X35.here hx rfl (hb hby d8_7) rfl (tlt (by decide)).2.1 ?_
     refine XS.aloadN X35.here hx rfl (hb hby d8_10) rfl rfl ?_
     refine XS.iloadN X35.here hx rfl (hb hby d8_11) rfl ?_
     refine st37.trans ?_
     refine XS.istoreN X37.here hx rfl (hb hby d8_15) rfl (l' := #[rv r0, iv 1, iv c1]) rfl ?_
     refine XS.iloadN X37.here hx rfl (hb hby d8_16) rfl ?_
     refine XS.bipush X37.here hx rfl (hb hby d8_17) ?_
     exact kt
    by_cases hc19_39 : c1 < (32 : Int32)
    ·skip
     have G40 : ∀ t, Steps p.tables e below (T37.setTop (mkF m 25 #[rv r0, iv 1, iv c1] [(.int (9 : Int32)), (.int c1)])) t → Steps p.tables e below (s₁.setTop (entryFrame m #[(.ref r0)] 3)) t := by
      intro t kt
      refine G38 _ ?_
      refine XS.icmpNo X37.here hx rfl (hb hby d8_19) rfl (tlt hc19_39).2.1 ?_
      refine XS.iloadN X37.here hx rfl (hb hby d8_22) rfl ?_
      refine XS.bipush X37.here hx rfl (hb hby d8_23) ?_
      exact kt
     by_cases hc25_41 : c1 = (9 : Int32)
     ·skip
      have G42 : ∀ t, Steps p.tables e below (T37.setTop (mkF m 31 #[rv r0, iv 1, iv c1] [(.int (127 : Int32)), (.int c1)])) t → Steps p.tables e below (s₁.setTop (entryFrame m #[(.ref r0)] 3)) t := by
       intro t kt
       refine G40 _ ?_
       refine XS.icmpNo X37.here hx rfl (hb hby d8_25) rfl (teq hc25_41).2 ?_
       refine XS.iloadN X37.here hx rfl (hb hby d8_28) rfl ?_
       refine XS.bipush X37.here hx rfl (hb hby d8_29) ?_
       exact kt
      by_cases hc31_43 : c1 = (127 : Int32)
      ·skip
       obtain ⟨fs, hr, hrun, hended, hW, hsame⟩ := X37.leave (v := some (.int (0 : Int32))) (fun h => by rw [Bd.returns] at h; cases h)
       refine ⟨_, _, G42 _ ?_, hrun, hended, _, _, rfl, ?_, ⟨_, rfl⟩, hW, hsame.mono (by decide) (by decide)⟩
       ·skip
        refine XS.icmpYes X37.here hx rfl (pc0 := 31) (pc' := 41) rfl (hb hby d8_31) rfl (teq hc31_43).1 (by decide) (by decide) ?_
        refine XS.iconst X37.here hx rfl (hb hby d8_41) ?_
        exact retN X37 hx (t := .boolean) Bd.returns (by simp) (hb hby d8_42) hr
       ·show QrmFVU2 Z r0 c0 c1 ta kb cst fv h0 n0 _ T37.heap _
        rw [eh37]
        exact ⟨by rw [own_fv, if_neg ((own_al c0).1 (by have q0 := hc19_5; have q1 := hc31_32; have q2 := hc38_34; simp only [Int32.lt_iff_toInt_lt, ← Int32.toInt_inj, own_k9, own_k32, own_k127, own_k255] at q0 q1 q2; omega)), own_fv, if_pos ((own_al c1).2 (by have q0 := hc19_39; have q1 := hc25_41; have q2 := hc31_43; simp only [Int32.lt_iff_toInt_lt, ← Int32.toInt_inj, own_k9, own_k32, own_k127, own_k255] at q0 q1 q2; omega))], N37, rfl⟩
      ·skip
       have G44 : ∀ t, Steps p.tables e below (T37.setTop (mkF m 38 #[rv r0, iv 1, iv c1] [(.int (255 : Int32)), (.int c1)])) t → Steps p.tables e below (s₁.setTop (entryFrame m #[(.ref r0)] 3)) t := by
        intro t kt
        refine G42 _ ?_
        refine XS.icmpNo X37.here hx rfl (hb hby d8_31) rfl (feq hc31_43).1 ?_
        refine XS.iloadN X37.here hx rfl (hb hby d8_34) rfl ?_
        refine XS.sipush X37.here hx rfl (hb hby d8_35) ?_
        exact kt
       by_cases hc38_45 : (255 : Int32) < c1
       ·skip
        obtain ⟨fs, hr, hrun, hended, hW, hsame⟩ := X37.leave (v := some (.int (0 : Int32))) (fun h => by rw [Bd.returns] at h; cases h)
        refine ⟨_, _, G44 _ ?_, hrun, hended, _, _, rfl, ?_, ⟨_, rfl⟩, hW, hsame.mono (by decide) (by decide)⟩
        ·skip
         refine XS.icmpNo X37.here hx rfl (hb hby d8_38) rfl (tlt hc38_45).2.2.2 ?_
         refine XS.iconst X37.here hx rfl (hb hby d8_41) ?_
         exact retN X37 hx (t := .boolean) Bd.returns (by simp) (hb hby d8_42) hr
        ·show QrmFVU2 Z r0 c0 c1 ta kb cst fv h0 n0 _ T37.heap _
         rw [eh37]
         exact ⟨by rw [own_fv, if_neg ((own_al c0).1 (by have q0 := hc19_5; have q1 := hc31_32; have q2 := hc38_34; simp only [Int32.lt_iff_toInt_lt, ← Int32.toInt_inj, own_k9, own_k32, own_k127, own_k255] at q0 q1 q2; omega)), own_fv, if_pos ((own_al c1).2 (by have q0 := hc19_39; have q1 := hc25_41; have q2 := hc31_43; have q3 := hc38_45; simp only [Int32.lt_iff_toInt_lt, ← Int32.toInt_inj, own_k9, own_k32, own_k127, own_k255] at q0 q1 q2 q3; omega))], N37, rfl⟩
       ·skip
        obtain ⟨cq46, kq46, q46a, q46b, q46c⟩ := isOf hZ eh37 E0
        obtain ⟨_, _, ⟨T46, L46, k46, n46⟩, -, X46, ⟨Lc46, hQ46, l46, y46, z46⟩, st46⟩ := X37.virtualBack hx (y := (⟨"java/lang/String", "length", "()I"⟩ : MethodName)) (z := (⟨"java/lang/String", "length", "()I"⟩ : MethodName)) hown (mvT hZ (hq hw 38 rfl)) (mvT hZ (hq hw 39 rfl)) (notFace_of_selects (args := #[]) (mvT hZ (hq hw 41 rfl))) (mvT hZ (hq hw 41 rfl)) (mvT hZ (hq hw 40 rfl)) (by decide) (backOf (W := 1) (rm9 l Z a0 hw [] r0 (1 : Int32) ta kb (4 : Int32) [(.int (nar .byte ((c0 >>> ((0 : Int32) &&& 31)).toInt8.toInt32))), (.int (nar .byte ((c0 >>> ((8 : Int32) &&& 31)).toInt8.toInt32))), (.int (nar .byte ((c1 >>> ((0 : Int32) &&& 31)).toInt8.toInt32))), (.int (nar .byte ((c1 >>> ((8 : Int32) &&& 31)).toInt8.toInt32)))] (2 : Int32) cst fv h0 n0 Z0 E0 Fc Fv V0 O0 (by decide) SS) hZ (hq hw 42 rfl) (hq hw 3 rfl) (by decide) (by decide)) q46a q46c (g := (mkF m 4 #[rv r0, iv 2, iv c1] [(.ref r0), (.int (2 : Int32))])) rfl (by rw [hml]; rfl) (Steps.refl _) (argsL := []) (rest := [(.int (2 : Int32))]) (lenOf pd_14 rfl) rfl (by show 2 * 0 + _ ≤ _; exact Nat.le_of_eq rfl) (hb hby d8_4) (fun _ _ => ⟨rfl, eh37, (by decide : 0 + 0 ≤ _), (by decide : 0 + 0 ≤ _)⟩)
        dsimp only [Pt.U, Pt.locs, Pt.cells, Pt.slots] at X46 l46 y46 z46 st46 hQ46
        subst l46 y46 z46
        obtain ⟨rfl, N46q, eh46⟩ := hQ46
        have N46 := Fr.app N37 N46q
        have G47 : ∀ t, Steps p.tables e below (T46.setTop (mkF m 7 #[rv r0, iv 2, iv c1] [(.int (2 : Int32)), (.int (2 : Int32))])) t → Steps p.tables e below (s₁.setTop (entryFrame m #[(.ref r0)] 3)) t := by
         intro t kt
         refine G44 _ ?_
         refine XS.icmpYes X37.here hx rfl (pc0 := 38) (pc' := 43) rfl (hb hby d8_38) rfl (flt hc38_45).2.2.2 (by decide) (by decide) ?_
         refine XS.iinc X37.here hx rfl (hb hby d8_43) rfl (l' := #[rv r0, iv 2, iv c1]) rfl ?_
         refine XS.goto X37.here hx rfl (pc0 := 46) (pc' := 2) rfl (hb hby d8_46) (by decide) (by decide) ?_
         refine XS.iloadN X37.here hx rfl (hb hby d8_2) rfl ?_
         refine XS.aloadN X37.here hx rfl (hb hby d8_3) rfl rfl ?_
         refine st46.trans ?_
         exact kt
        obtain ⟨fs, hr, hrun, hended, hW, hsame⟩ := X46.leave (v := some (.int (1 : Int32))) (fun h => by rw [Bd.returns] at h; cases h)
        refine ⟨_, _, G47 _ ?_, hrun, hended, _, _, rfl, ?_, ⟨_, rfl⟩, hW, hsame.mono (by decide) (by decide)⟩
        ·skip
         refine XS.icmpYes X46.here hx rfl (pc0 := 7) (pc' := 49) rfl (hb hby d8_7) rfl (flt (by decide)).2.1 (by decide) (by decide) ?_
         refine XS.iconst X46.here hx rfl (hb hby d8_49) ?_
         exact retN X46 hx (t := .boolean) Bd.returns (by simp) (hb hby d8_50) hr
        ·show QrmFVU2 Z r0 c0 c1 ta kb cst fv h0 n0 _ T46.heap _
         rw [eh46]
         exact ⟨by rw [own_fv, if_neg ((own_al c0).1 (by have q0 := hc19_5; have q1 := hc31_32; have q2 := hc38_34; simp only [Int32.lt_iff_toInt_lt, ← Int32.toInt_inj, own_k9, own_k32, own_k127, own_k255] at q0 q1 q2; omega)), own_fv, if_neg ((own_al c1).1 (by have q0 := hc19_39; have q1 := hc25_41; have q2 := hc31_43; have q3 := hc38_45; simp only [Int32.lt_iff_toInt_lt, ← Int32.toInt_inj, own_k9, own_k32, own_k127, own_k255] at q0 q1 q2 q3; omega)), own_fv], N46, rfl⟩
     ·skip
      obtain ⟨fs, hr, hrun, hended, hW, hsame⟩ := X37.leave (v := some (.int (0 : Int32))) (fun h => by rw [Bd.returns] at h; cases h)
      refine ⟨_, _, G40 _ ?_, hrun, hended, _, _, rfl, ?_, ⟨_, rfl⟩, hW, hsame.mono (by decide) (by decide)⟩
      ·skip
       refine XS.icmpYes X37.here hx rfl (pc0 := 25) (pc' := 41) rfl (hb hby d8_25) rfl (feq hc25_41).2 (by decide) (by decide) ?_
       refine XS.iconst X37.here hx rfl (hb hby d8_41) ?_
       exact retN X37 hx (t := .boolean) Bd.returns (by simp) (hb hby d8_42) hr
      ·show QrmFVU2 Z r0 c0 c1 ta kb cst fv h0 n0 _ T37.heap _
       rw [eh37]
       exact ⟨by rw [own_fv, if_neg ((own_al c0).1 (by have q0 := hc19_5; have q1 := hc31_32; have q2 := hc38_34; simp only [Int32.lt_iff_toInt_lt, ← Int32.toInt_inj, own_k9, own_k32, own_k127, own_k255] at q0 q1 q2; omega)), own_fv, if_pos ((own_al c1).2 (by have q0 := hc19_39; have q1 := hc25_41; simp only [Int32.lt_iff_toInt_lt, ← Int32.toInt_inj, own_k9, own_k32, own_k127, own_k255] at q0 q1; omega))], N37, rfl⟩
    ·skip
     have G48 : ∀ t, Steps p.tables e below (T37.setTop (mkF m 31 #[rv r0, iv 1, iv c1] [(.int (127 : Int32)), (.int c1)])) t → Steps p.tables e below (s₁.setTop (entryFrame m #[(.ref r0)] 3)) t := by
      intro t kt
      refine G38 _ ?_
      refine XS.icmpYes X37.here hx rfl (pc0 := 19) (pc' := 28) rfl (hb hby d8_19) rfl (flt hc19_39).2.1 (by decide) (by decide) ?_
      refine XS.iloadN X37.here hx rfl (hb hby d8_28) rfl ?_
      refine XS.bipush X37.here hx rfl (hb hby d8_29) ?_
      exact kt
     by_cases hc31_49 : c1 = (127 : Int32)
     ·skip
      obtain ⟨fs, hr, hrun, hended, hW, hsame⟩ := X37.leave (v := some (.int (0 : Int32))) (fun h => by rw [Bd.returns] at h; cases h)
      refine ⟨_, _, G48 _ ?_, hrun, hended, _, _, rfl, ?_, ⟨_, rfl⟩, hW, hsame.mono (by decide) (by decide)⟩
      ·skip
       refine XS.icmpYes X37.here hx rfl (pc0 := 31) (pc' := 41) rfl (hb hby d8_31) rfl (teq hc31_49).1 (by decide) (by decide) ?_
       refine XS.iconst X37.here hx rfl (hb hby d8_41) ?_
       exact retN X37 hx (t := .boolean) Bd.returns (by simp) (hb hby d8_42) hr
      ·show QrmFVU2 Z r0 c0 c1 ta kb cst fv h0 n0 _ T37.heap _
       rw [eh37]
       exact ⟨by rw [own_fv, if_neg ((own_al c0).1 (by have q0 := hc19_5; have q1 := hc31_32; have q2 := hc38_34; simp only [Int32.lt_iff_toInt_lt, ← Int32.toInt_inj, own_k9, own_k32, own_k127, own_k255] at q0 q1 q2; omega)), own_fv, if_pos ((own_al c1).2 (by have q0 := hc19_39; have q1 := hc31_49; simp only [Int32.lt_iff_toInt_lt, ← Int32.toInt_inj, own_k9, own_k32, own_k127, own_k255] at q0 q1; omega))], N37, rfl⟩
     ·skip
      have G50 : ∀ t, Steps p.tables e below (T37.setTop (mkF m 38 #[rv r0, iv 1, iv c1] [(.int (255 : Int32)), (.int c1)])) t → Steps p.tables e below (s₁.setTop (entryFrame m #[(.ref r0)] 3)) t := by
       intro t kt
       refine G48 _ ?_
       refine XS.icmpNo X37.here hx rfl (hb hby d8_31) rfl (feq hc31_49).1 ?_
       refine XS.iloadN X37.here hx rfl (hb hby d8_34) rfl ?_
       refine XS.sipush X37.here hx rfl (hb hby d8_35) ?_
       exact kt
      by_cases hc38_51 : (255 : Int32) < c1
      ·skip
       obtain ⟨fs, hr, hrun, hended, hW, hsame⟩ := X37.leave (v := some (.int (0 : Int32))) (fun h => by rw [Bd.returns] at h; cases h)
       refine ⟨_, _, G50 _ ?_, hrun, hended, _, _, rfl, ?_, ⟨_, rfl⟩, hW, hsame.mono (by decide) (by decide)⟩
       ·skip
        refine XS.icmpNo X37.here hx rfl (hb hby d8_38) rfl (tlt hc38_51).2.2.2 ?_
        refine XS.iconst X37.here hx rfl (hb hby d8_41) ?_
        exact retN X37 hx (t := .boolean) Bd.returns (by simp) (hb hby d8_42) hr
       ·show QrmFVU2 Z r0 c0 c1 ta kb cst fv h0 n0 _ T37.heap _
        rw [eh37]
        exact ⟨by rw [own_fv, if_neg ((own_al c0).1 (by have q0 := hc19_5; have q1 := hc31_32; have q2 := hc38_34; simp only [Int32.lt_iff_toInt_lt, ← Int32.toInt_inj, own_k9, own_k32, own_k127, own_k255] at q0 q1 q2; omega)), own_fv, if_pos ((own_al c1).2 (by have q0 := hc19_39; have q1 := hc31_49; have q2 := hc38_51; simp only [Int32.lt_iff_toInt_lt, ← Int32.toInt_inj, own_k9, own_k32, own_k127, own_k255] at q0 q1 q2; omega))], N37, rfl⟩
      ·skip
       obtain ⟨cq52, kq52, q52a, q52b, q52c⟩ := isOf hZ eh37 E0
       obtain ⟨_, _, ⟨T52, L52, k52, n52⟩, -, X52, ⟨Lc52, hQ52, l52, y52, z52⟩, st52⟩ := X37.virtualBack hx (y := (⟨"java/lang/String", "length", "()I"⟩ : MethodName)) (z := (⟨"java/lang/String", "length", "()I"⟩ : MethodName)) hown (mvT hZ (hq hw 38 rfl)) (mvT hZ (hq hw 39 rfl)) (notFace_of_selects (args := #[]) (mvT hZ (hq hw 41 rfl))) (mvT hZ (hq hw 41 rfl)) (mvT hZ (hq hw 40 rfl)) (by decide) (backOf (W := 1) (rm9 l Z a0 hw [] r0 (1 : Int32) ta kb (4 : Int32) [(.int (nar .byte ((c0 >>> ((0 : Int32) &&& 31)).toInt8.toInt32))), (.int (nar .byte ((c0 >>> ((8 : Int32) &&& 31)).toInt8.toInt32))), (.int (nar .byte ((c1 >>> ((0 : Int32) &&& 31)).toInt8.toInt32))), (.int (nar .byte ((c1 >>> ((8 : Int32) &&& 31)).toInt8.toInt32)))] (2 : Int32) cst fv h0 n0 Z0 E0 Fc Fv V0 O0 (by decide) SS) hZ (hq hw 42 rfl) (hq hw 3 rfl) (by decide) (by decide)) q52a q52c (g := (mkF m 4 #[rv r0, iv 2, iv c1] [(.ref r0), (.int (2 : Int32))])) rfl (by rw [hml]; rfl) (Steps.refl _) (argsL := []) (rest := [(.int (2 : Int32))]) (lenOf pd_14 rfl) rfl (by show 2 * 0 + _ ≤ _; exact Nat.le_of_eq rfl) (hb hby d8_4) (fun _ _ => ⟨rfl, eh37, (by decide : 0 + 0 ≤ _), (by decide : 0 + 0 ≤ _)⟩)
       dsimp only [Pt.U, Pt.locs, Pt.cells, Pt.slots] at X52 l52 y52 z52 st52 hQ52
       subst l52 y52 z52
       obtain ⟨rfl, N52q, eh52⟩ := hQ52
       have N52 := Fr.app N37 N52q
       have G53 : ∀ t, Steps p.tables e below (T52.setTop (mkF m 7 #[rv r0, iv 2, iv c1] [(.int (2 : Int32)), (.int (2 : Int32))])) t → Steps p.tables e below (s₁.setTop (entryFrame m #[(.ref r0)] 3)) t := by
        intro t kt
        refine G50 _ ?_
        refine XS.icmpYes X37.here hx rfl (pc0 := 38) (pc' := 43) rfl (hb hby d8_38) rfl (flt hc38_51).2.2.2 (by decide) (by decide) ?_
        refine XS.iinc X37.here hx rfl (hb hby d8_43) rfl (l' := #[rv r0, iv 2, iv c1]) rfl ?_
        refine XS.goto X37.here hx rfl (pc0 := 46) (pc' := 2) rfl (hb hby d8_46) (by decide) (by decide) ?_
        refine XS.iloadN X37.here hx rfl (hb hby d8_2) rfl ?_
        refine XS.aloadN X37.here hx rfl (hb hby d8_3) rfl rfl ?_
        refine st52.trans ?_
        exact kt
       obtain ⟨fs, hr, hrun, hended, hW, hsame⟩ := X52.leave (v := some (.int (1 : Int32))) (fun h => by rw [Bd.returns] at h; cases h)
       refine ⟨_, _, G53 _ ?_, hrun, hended, _, _, rfl, ?_, ⟨_, rfl⟩, hW, hsame.mono (by decide) (by decide)⟩
       ·skip
        refine XS.icmpYes X52.here hx rfl (pc0 := 7) (pc' := 49) rfl (hb hby d8_7) rfl (flt (by decide)).2.1 (by decide) (by decide) ?_
        refine XS.iconst X52.here hx rfl (hb hby d8_49) ?_
        exact retN X52 hx (t := .boolean) Bd.returns (by simp) (hb hby d8_50) hr
       ·show QrmFVU2 Z r0 c0 c1 ta kb cst fv h0 n0 _ T52.heap _
        rw [eh52]
        exact ⟨by rw [own_fv, if_neg ((own_al c0).1 (by have q0 := hc19_5; have q1 := hc31_32; have q2 := hc38_34; simp only [Int32.lt_iff_toInt_lt, ← Int32.toInt_inj, own_k9, own_k32, own_k127, own_k255] at q0 q1 q2; omega)), own_fv, if_neg ((own_al c1).1 (by have q0 := hc19_39; have q1 := hc31_49; have q2 := hc38_51; simp only [Int32.lt_iff_toInt_lt, ← Int32.toInt_inj, own_k9, own_k32, own_k127, own_k255] at q0 q1 q2; omega)), own_fv], N52, rfl⟩
def QrmFVL3 (Z : State) (r0 : Addr) (c0 c1 c2 : Int32) (ta : Addr) (kb : ClassId) (cst : Int32) (fv : Value) (h0 : Heap) (n0 : Nat) (v : Option Value) (h : Heap) (L : List Loc) : Prop := v = some (.int (own_fv [c0, c1, c2])) ∧ Fr n0 L ∧ h = h0
theorem ef_rmFVL3 (m : MethodId) (x0 : Addr) : entryFrame m #[(.ref x0)] 3 = mkF m 0 #[.val (.ref x0), .unset, .unset] [] := by first | (simp [entryFrame, mkF, argsToLocals, Value.category]; done) | rfl
set_option maxRecDepth 65536 in
set_option maxHeartbeats 40000000 in
theorem rmFVL3 (l : Launch) (Z : State) (a0 : Array Value) (hw : ∀ d ∈ tables_1, d.before a0 Z = true) (ws : List Jvm.Cond) (r0 : Addr) (c0 c1 c2 : Int32) (ta : Addr) (kb : ClassId) (cst : Int32) (fv : Value) (h0 : Heap) (n0 : Nat) (Z0 : n0 ≤ h0.size) (E0 : Exa Z h0 r0 "java/lang/String") (Fc : Fld Z h0 r0 "java/lang/String" "coder" "B" (.int (0 : Int32))) (Fv : Fld Z h0 r0 "java/lang/String" "value" "[B" (.ref ta)) (V0 : Arv Z h0 ta kb .byte (3 : Int32) [(.int (nar .byte (c0.toInt8.toInt32))), (.int (nar .byte (c1.toInt8.toInt32))), (.int (nar .byte (c2.toInt8.toInt32)))] (.int (0 : Int32))) (O0 : Old Z n0 h0) (hb0 : 0 ≤ c0.toInt ∧ c0.toInt ≤ 65535) (hb1 : 0 ≤ c1.toInt ∧ c1.toInt ≤ 65535) (hb2 : 0 ≤ c2.toInt ∧ c2.toInt ≤ 65535) (hl0 : ¬ ((255 : Int32) < c0)) (hl1 : ¬ ((255 : Int32) < c1)) (hl2 : ¬ ((255 : Int32) < c2)) (SS : Sts Z cst fv) :
  MetFree l (⟨"com/example/wary_bearer/warybearer/http/Http1Reader", "isFieldValue", "(Ljava/lang/String;)Z"⟩ : MethodName) (head1 (Jvm.Cond.code (⟨"com/example/wary_bearer/warybearer/http/Http1Reader", "isFieldValue", "(Ljava/lang/String;)Z"⟩ : MethodName) prog_13_method_11_code 3 (some .boolean) :: ws) ({ frames := 5, cells := 0, slots := 0, locals := 66 } : Room)) (fun a U => a = #[(.ref r0)] ∧ Z.Warmed39 U.vm ∧ U.heap = h0) (fun _ _ _ _ _ => True) (fun _ U o U' => ∃ v L, o = .returned v ∧ QrmFVL3 Z r0 c0 c1 c2 ta kb cst fv h0 n0 v U'.heap L ∧ FrameEnd U o U' L ({ frames := 5, cells := 0, slots := 0, locals := 66 } : Room).cells ({ frames := 5, cells := 0, slots := 0, locals := 66 } : Room).slots) := by
 refine MetFree.of_bodySF (plainFor_of_name pnc_com_example_wary_bearer_warybearer_http_Http1Reader) hisR ?_
 intro p e s m args below meth c s₁ Bd hml0 hP hK
 obtain ⟨rfl, hZ, hh⟩ := hP
 have hx := Bd.exec
 have hby := Bd.bytes
 have hml : c.maxLocals = 3 := hml0
 have hown : s.vm.findClass "com/example/wary_bearer/warybearer/http/Http1Reader" = some m.cls := findClass_of_methodNamed Bd.named
 have hnm := (name_of_methodNamed Bd.named Bd.method).1
 have X0 : Stand p l e ({ frames := 5, cells := 0, slots := 0, locals := 66 } : Room) s m #[(.ref r0)] below meth c s₁ [] 0 0 := Stand.of_body Bd
 have e0 : s₁.heap = h0 := by rw [← hh, Bd.state]; rfl
 have N0 := Fr.nil n0
 have kp0 : Keep h0 h0 [] := Keep.refl _ _
 have G0 : ∀ t, Steps p.tables e below (s₁.setTop (mkF m 0 #[rv r0, .unset, .unset] [])) t → Steps p.tables e below (s₁.setTop (entryFrame m #[(.ref r0)] 3)) t := fun t k => castTop (ef_rmFVL3 m r0) k
 obtain ⟨cq1, kq1, q1a, q1b, q1c⟩ := isOf hZ e0 E0
 obtain ⟨_, _, ⟨T1, L1, k1, n1⟩, -, X1, ⟨Lc1, hQ1, l1, y1, z1⟩, st1⟩ := X0.virtualBack hx (y := (⟨"java/lang/String", "length", "()I"⟩ : MethodName)) (z := (⟨"java/lang/String", "length", "()I"⟩ : MethodName)) hown (mvT hZ (hq hw 38 rfl)) (mvT hZ (hq hw 39 rfl)) (notFace_of_selects (args := #[]) (mvT hZ (hq hw 41 rfl))) (mvT hZ (hq hw 41 rfl)) (mvT hZ (hq hw 40 rfl)) (by decide) (backOf (W := 1) (rm9 l Z a0 hw [] r0 (0 : Int32) ta kb (3 : Int32) [(.int (nar .byte (c0.toInt8.toInt32))), (.int (nar .byte (c1.toInt8.toInt32))), (.int (nar .byte (c2.toInt8.toInt32)))] (3 : Int32) cst fv h0 n0 Z0 E0 Fc Fv V0 O0 (by decide) SS) hZ (hq hw 42 rfl) (hq hw 3 rfl) (by decide) (by decide)) q1a q1c (g := (mkF m 4 #[rv r0, iv 0, .unset] [(.ref r0), (.int (0 : Int32))])) rfl (by rw [hml]; rfl) (Steps.refl _) (argsL := []) (rest := [(.int (0 : Int32))]) (lenOf pd_14 rfl) rfl (by show 2 * 0 + _ ≤ _; exact Nat.le_of_eq rfl) (hb hby d8_4) (fun _ _ => ⟨rfl, e0, (by decide : 0 + 0 ≤ _), (by decide : 0 + 0 ≤ _)⟩)
 dsimp only [Pt.U, Pt.locs, Pt.cells, Pt.slots] at X1 l1 y1 z1 st1 hQ1
 subst l1 y1 z1
 obtain ⟨rfl, N1q, eh1⟩ := hQ1
 have N1 := Fr.app N0 N1q
 have G2 : ∀ t, Steps p.tables e below (T1.setTop (mkF m 7 #[rv r0, iv 0, .unset] [(.int (3 : Int32)), (.int (0 : Int32))])) t → Steps p.tables e below (s₁.setTop (entryFrame m #[(.ref r0)] 3)) t := by
  intro t kt
  refine G0 _ ?_
  refine XS.iconst X0.here hx rfl (hb hby d8_0) ?_
  refine XS.istoreN X0.here hx rfl (hb hby d8_1) rfl (l' := #[rv r0, iv 0, .unset]) rfl ?_
  refine XS.iloadN X0.here hx rfl (hb hby d8_2) rfl ?_
  refine XS.aloadN X0.here hx rfl (hb hby d8_3) rfl rfl ?_
  refine st1.trans ?_
  exact kt
 obtain ⟨cq3, kq3, q3a, q3b, q3c⟩ := isOf hZ eh1 E0
 obtain ⟨_, _, ⟨T3, L3, k3, n3⟩, -, X3, ⟨Lc3, hQ3, l3, y3, z3⟩, st3⟩ := X1.virtualBack hx (y := (⟨"java/lang/String", "charAt", "(I)C"⟩ : MethodName)) (z := (⟨"java/lang/String", "charAt", "(I)C"⟩ : MethodName)) hown (mvT hZ (hq hw 48 rfl)) (mvT hZ (hq hw 49 rfl)) (notFace_of_selects (args := #[]) (mvT hZ (hq hw 51 rfl))) (mvT hZ (hq hw 51 rfl)) (mvT hZ (hq hw 50 rfl)) (by decide) (backOf (W := 0) (rmChL l Z a0 hw [] r0 (0 : Int32) ta kb (3 : Int32) [(.int (nar .byte (c0.toInt8.toInt32))), (.int (nar .byte (c1.toInt8.toInt32))), (.int (nar .byte (c2.toInt8.toInt32)))] (nar .byte (c0.toInt8.toInt32)) c0 cst fv h0 n0 Z0 E0 Fc Fv V0 O0 (by decide) (by decide) rfl (own_lat c0 hb0 hl0) SS) hZ (hq hw 52 rfl) (hq hw 3 rfl) (by decide) (by decide)) q3a q3c (g := (mkF m 12 #[rv r0, iv 0, .unset] [(.int (0 : Int32)), (.ref r0)])) rfl (by rw [hml]; rfl) (Steps.refl _) (argsL := [(.int (0 : Int32))]) (rest := []) (lenOf pd_15 rfl) rfl (by show 2 * 0 + _ ≤ _; exact Nat.le_of_eq rfl) (hb hby d8_12) (fun _ _ => ⟨rfl, eh1, (by decide : 0 + 0 ≤ _), (by decide : 0 + 0 ≤ _)⟩)
 dsimp only [Pt.U, Pt.locs, Pt.cells, Pt.slots] at X3 l3 y3 z3 st3 hQ3
 subst l3 y3 z3
 obtain ⟨rfl, N3q, eh3⟩ := hQ3
 have N3 := Fr.app N1 N3q
 have G4 : ∀ t, Steps p.tables e below (T3.setTop (mkF m 19 #[rv r0, iv 0, iv c0] [(.int (32 : Int32)), (.int c0)])) t → Steps p.tables e below (s₁.setTop (entryFrame m #[(.ref r0)] 3)) t := by
  intro t kt
  refine G2 _ ?_
  refine XS.icmpNo X1.here hx rfl (hb hby d8_7) rfl (tlt (by decide)).2.1 ?_
  refine XS.aloadN X1.here hx rfl (hb hby d8_10) rfl rfl ?_
  refine XS.iloadN X1.here hx rfl (hb hby d8_11) rfl ?_
  refine st3.trans ?_
  refine XS.istoreN X3.here hx rfl (hb hby d8_15) rfl (l' := #[rv r0, iv 0, iv c0]) rfl ?_
  refine XS.iloadN X3.here hx rfl (hb hby d8_16) rfl ?_
  refine XS.bipush X3.here hx rfl (hb hby d8_17) ?_
  exact kt
 by_cases hc19_5 : c0 < (32 : Int32)
 ·skip
  have G6 : ∀ t, Steps p.tables e below (T3.setTop (mkF m 25 #[rv r0, iv 0, iv c0] [(.int (9 : Int32)), (.int c0)])) t → Steps p.tables e below (s₁.setTop (entryFrame m #[(.ref r0)] 3)) t := by
   intro t kt
   refine G4 _ ?_
   refine XS.icmpNo X3.here hx rfl (hb hby d8_19) rfl (tlt hc19_5).2.1 ?_
   refine XS.iloadN X3.here hx rfl (hb hby d8_22) rfl ?_
   refine XS.bipush X3.here hx rfl (hb hby d8_23) ?_
   exact kt
  by_cases hc25_7 : c0 = (9 : Int32)
  ·skip
   have G8 : ∀ t, Steps p.tables e below (T3.setTop (mkF m 31 #[rv r0, iv 0, iv c0] [(.int (127 : Int32)), (.int c0)])) t → Steps p.tables e below (s₁.setTop (entryFrame m #[(.ref r0)] 3)) t := by
    intro t kt
    refine G6 _ ?_
    refine XS.icmpNo X3.here hx rfl (hb hby d8_25) rfl (teq hc25_7).2 ?_
    refine XS.iloadN X3.here hx rfl (hb hby d8_28) rfl ?_
    refine XS.bipush X3.here hx rfl (hb hby d8_29) ?_
    exact kt
   by_cases hc31_9 : c0 = (127 : Int32)
   ·skip
    obtain ⟨fs, hr, hrun, hended, hW, hsame⟩ := X3.leave (v := some (.int (0 : Int32))) (fun h => by rw [Bd.returns] at h; cases h)
    refine ⟨_, _, G8 _ ?_, hrun, hended, _, _, rfl, ?_, ⟨_, rfl⟩, hW, hsame.mono (by decide) (by decide)⟩
    ·skip
     refine XS.icmpYes X3.here hx rfl (pc0 := 31) (pc' := 41) rfl (hb hby d8_31) rfl (teq hc31_9).1 (by decide) (by decide) ?_
     refine XS.iconst X3.here hx rfl (hb hby d8_41) ?_
     exact retN X3 hx (t := .boolean) Bd.returns (by simp) (hb hby d8_42) hr
    ·show QrmFVL3 Z r0 c0 c1 c2 ta kb cst fv h0 n0 _ T3.heap _
     rw [eh3]
     exact ⟨by rw [own_fv, if_pos ((own_al c0).2 (by have q0 := hc19_5; have q1 := hc25_7; have q2 := hc31_9; simp only [Int32.lt_iff_toInt_lt, ← Int32.toInt_inj, own_k9, own_k32, own_k127, own_k255] at q0 q1 q2; omega))], N3, rfl⟩
   ·skip
    have G10 : ∀ t, Steps p.tables e below (T3.setTop (mkF m 38 #[rv r0, iv 0, iv c0] [(.int (255 : Int32)), (.int c0)])) t → Steps p.tables e below (s₁.setTop (entryFrame m #[(.ref r0)] 3)) t := by
     intro t kt
     refine G8 _ ?_
     refine XS.icmpNo X3.here hx rfl (hb hby d8_31) rfl (feq hc31_9).1 ?_
     refine XS.iloadN X3.here hx rfl (hb hby d8_34) rfl ?_
     refine XS.sipush X3.here hx rfl (hb hby d8_35) ?_
     exact kt
    by_cases hc38_11 : (255 : Int32) < c0
    ·skip
     obtain ⟨fs, hr, hrun, hended, hW, hsame⟩ := X3.leave (v := some (.int (0 : Int32))) (fun h => by rw [Bd.returns] at h; cases h)
     refine ⟨_, _, G10 _ ?_, hrun, hended, _, _, rfl, ?_, ⟨_, rfl⟩, hW, hsame.mono (by decide) (by decide)⟩
     ·skip
      refine XS.icmpNo X3.here hx rfl (hb hby d8_38) rfl (tlt hc38_11).2.2.2 ?_
      refine XS.iconst X3.here hx rfl (hb hby d8_41) ?_
      exact retN X3 hx (t := .boolean) Bd.returns (by simp) (hb hby d8_42) hr
     ·show QrmFVL3 Z r0 c0 c1 c2 ta kb cst fv h0 n0 _ T3.heap _
      rw [eh3]
      exact ⟨by rw [own_fv, if_pos ((own_al c0).2 (by have q0 := hc19_5; have q1 := hc25_7; have q2 := hc31_9; have q3 := hc38_11; simp only [Int32.lt_iff_toInt_lt, ← Int32.toInt_inj, own_k9, own_k32, own_k127, own_k255] at q0 q1 q2 q3; omega))], N3, rfl⟩
    ·skip
     obtain ⟨cq12, kq12, q12a, q12b, q12c⟩ := isOf hZ eh3 E0
     obtain ⟨_, _, ⟨T12, L12, k12, n12⟩, -, X12, ⟨Lc12, hQ12, l12, y12, z12⟩, st12⟩ := X3.virtualBack hx (y := (⟨"java/lang/String", "length", "()I"⟩ : MethodName)) (z := (⟨"java/lang/String", "length", "()I"⟩ : MethodName)) hown (mvT hZ (hq hw 38 rfl)) (mvT hZ (hq hw 39 rfl)) (notFace_of_selects (args := #[]) (mvT hZ (hq hw 41 rfl))) (mvT hZ (hq hw 41 rfl)) (mvT hZ (hq hw 40 rfl)) (by decide) (backOf (W := 1) (rm9 l Z a0 hw [] r0 (0 : Int32) ta kb (3 : Int32) [(.int (nar .byte (c0.toInt8.toInt32))), (.int (nar .byte (c1.toInt8.toInt32))), (.int (nar .byte (c2.toInt8.toInt32)))] (3 : Int32) cst fv h0 n0 Z0 E0 Fc Fv V0 O0 (by decide) SS) hZ (hq hw 42 rfl) (hq hw 3 rfl) (by decide) (by decide)) q12a q12c (g := (mkF m 4 #[rv r0, iv 1, iv c0] [(.ref r0), (.int (1 : Int32))])) rfl (by rw [hml]; rfl) (Steps.refl _) (argsL := []) (rest := [(.int (1 : Int32))]) (lenOf pd_14 rfl) rfl (by show 2 * 0 + _ ≤ _; exact Nat.le_of_eq rfl) (hb hby d8_4) (fun _ _ => ⟨rfl, eh3, (by decide : 0 + 0 ≤ _), (by decide : 0 + 0 ≤ _)⟩)
     dsimp only [Pt.U, Pt.locs, Pt.cells, Pt.slots] at X12 l12 y12 z12 st12 hQ12
     subst l12 y12 z12
     obtain ⟨rfl, N12q, eh12⟩ := hQ12
     have N12 := Fr.app N3 N12q
     have G13 : ∀ t, Steps p.tables e below (T12.setTop (mkF m 7 #[rv r0, iv 1, iv c0] [(.int (3 : Int32)), (.int (1 : Int32))])) t → Steps p.tables e below (s₁.setTop (entryFrame m #[(.ref r0)] 3)) t := by
      intro t kt
      refine G10 _ ?_
      refine XS.icmpYes X3.here hx rfl (pc0 := 38) (pc' := 43) rfl (hb hby d8_38) rfl (flt hc38_11).2.2.2 (by decide) (by decide) ?_
      refine XS.iinc X3.here hx rfl (hb hby d8_43) rfl (l' := #[rv r0, iv 1, iv c0]) rfl ?_
      refine XS.goto X3.here hx rfl (pc0 := 46) (pc' := 2) rfl (hb hby d8_46) (by decide) (by decide) ?_
      show Steps p.tables e below (T3.setTop (mkF m 2 #[rv r0, iv 1, iv c0] [])) _
      refine XS.iloadN X3.here hx rfl (hb hby d8_2) rfl ?_
      refine XS.aloadN X3.here hx rfl (hb hby d8_3) rfl rfl ?_
      refine st12.trans ?_
      exact kt
     obtain ⟨cq14, kq14, q14a, q14b, q14c⟩ := isOf hZ eh12 E0
     obtain ⟨_, _, ⟨T14, L14, k14, n14⟩, -, X14, ⟨Lc14, hQ14, l14, y14, z14⟩, st14⟩ := X12.virtualBack hx (y := (⟨"java/lang/String", "charAt", "(I)C"⟩ : MethodName)) (z := (⟨"java/lang/String", "charAt", "(I)C"⟩ : MethodName)) hown (mvT hZ (hq hw 48 rfl)) (mvT hZ (hq hw 49 rfl)) (notFace_of_selects (args := #[]) (mvT hZ (hq hw 51 rfl))) (mvT hZ (hq hw 51 rfl)) (mvT hZ (hq hw 50 rfl)) (by decide) (backOf (W := 0) (rmChL l Z a0 hw [] r0 (1 : Int32) ta kb (3 : Int32) [(.int (nar .byte (c0.toInt8.toInt32))), (.int (nar .byte (c1.toInt8.toInt32))), (.int (nar .byte (c2.toInt8.toInt32)))] (nar .byte (c1.toInt8.toInt32)) c1 cst fv h0 n0 Z0 E0 Fc Fv V0 O0 (by decide) (by decide) rfl (own_lat c1 hb1 hl1) SS) hZ (hq hw 52 rfl) (hq hw 3 rfl) (by decide) (by decide)) q14a q14c (g := (mkF m 12 #[rv r0, iv 1, iv c0] [(.int (1 : Int32)), (.ref r0)])) rfl (by rw [hml]; rfl) (Steps.refl _) (argsL := [(.int (1 : Int32))]) (rest := []) (lenOf pd_15 rfl) rfl (by show 2 * 0 + _ ≤ _; exact Nat.le_of_eq rfl) (hb hby d8_12) (fun _ _ => ⟨rfl, eh12, (by decide : 0 + 0 ≤ _), (by decide : 0 + 0 ≤ _)⟩)
     dsimp only [Pt.U, Pt.locs, Pt.cells, Pt.slots] at X14 l14 y14 z14 st14 hQ14
     subst l14 y14 z14
     obtain ⟨rfl, N14q, eh14⟩ := hQ14
     have N14 := Fr.app N12 N14q
     have G15 : ∀ t, Steps p.tables e below (T14.setTop (mkF m 19 #[rv r0, iv 1, iv c1] [(.int (32 : Int32)), (.int c1)])) t → Steps p.tables e below (s₁.setTop (entryFrame m #[(.ref r0)] 3)) t := by
      intro t kt
      refine G13 _ ?_
      refine XS.icmpNo X12.here hx rfl (hb hby d8_7) rfl (tlt (by decide)).2.1 ?_
      refine XS.aloadN X12.here hx rfl (hb hby d8_10) rfl rfl ?_
      refine XS.iloadN X12.here hx rfl (hb hby d8_11) rfl ?_
      refine st14.trans ?_
      refine XS.istoreN X14.here hx rfl (hb hby d8_15) rfl (l' := #[rv r0, iv 1, iv c1]) rfl ?_
      refine XS.iloadN X14.here hx rfl (hb hby d8_16) rfl ?_
      refine XS.bipush X14.here hx rfl (hb hby d8_17) ?_
      exact kt
     by_cases hc19_16 : c1 < (32 : Int32)
     ·skip
      have G17 : ∀ t, Steps p.tables e below (T14.setTop (mkF m 25 #[rv r0, iv 1, iv c1] [(.int (9 : Int32)), (.int c1)])) t → Steps p.tables e below (s₁.setTop (entryFrame m #[(.ref r0)] 3)) t := by
       intro t kt
       refine G15 _ ?_
       refine XS.icmpNo X14.here hx rfl (hb hby d8_19) rfl (tlt hc19_16).2.1 ?_
       refine XS.iloadN X14.here hx rfl (hb hby d8_22) rfl ?_
       refine XS.bipush X14.here hx rfl (hb hby d8_23) ?_
       exact kt
      by_cases hc25_18 : c1 = (9 : Int32)
      ·skip
       have G19 : ∀ t, Steps p.tables e below (T14.setTop (mkF m 31 #[rv r0, iv 1, iv c1] [(.int (127 : Int32)), (.int c1)])) t → Steps p.tables e below (s₁.setTop (entryFrame m #[(.ref r0)] 3)) t := by
        intro t kt
        refine G17 _ ?_
        refine XS.icmpNo X14.here hx rfl (hb hby d8_25) rfl (teq hc25_18).2 ?_
        refine XS.iloadN X14.here hx rfl (hb hby d8_28) rfl ?_
        refine XS.bipush X14.here hx rfl (hb hby d8_29) ?_
        exact kt
       by_cases hc31_20 : c1 = (127 : Int32)
       ·skip
        obtain ⟨fs, hr, hrun, hended, hW, hsame⟩ := X14.leave (v := some (.int (0 : Int32))) (fun h => by rw [Bd.returns] at h; cases h)
        refine ⟨_, _, G19 _ ?_, hrun, hended, _, _, rfl, ?_, ⟨_, rfl⟩, hW, hsame.mono (by decide) (by decide)⟩
        ·skip
         refine XS.icmpYes X14.here hx rfl (pc0 := 31) (pc' := 41) rfl (hb hby d8_31) rfl (teq hc31_20).1 (by decide) (by decide) ?_
         refine XS.iconst X14.here hx rfl (hb hby d8_41) ?_
         exact retN X14 hx (t := .boolean) Bd.returns (by simp) (hb hby d8_42) hr
        ·show QrmFVL3 Z r0 c0 c1 c2 ta kb cst fv h0 n0 _ T14.heap _
         rw [eh14]
         exact ⟨by rw [own_fv, if_neg ((own_al c0).1 (by have q0 := hc19_5; have q1 := hc25_7; have q2 := hc31_9; have q3 := hc38_11; simp only [Int32.lt_iff_toInt_lt, ← Int32.toInt_inj, own_k9, own_k32, own_k127, own_k255] at q0 q1 q2 q3; omega)), own_fv, if_pos ((own_al c1).2 (by have q0 := hc19_16; have q1 := hc25_18; have q2 := hc31_20; simp only [Int32.lt_iff_toInt_lt, ← Int32.toInt_inj, own_k9, own_k32, own_k127, own_k255] at q0 q1 q2; omega))], N14, rfl⟩
       ·skip
        have G21 : ∀ t, Steps p.tables e below (T14.setTop (mkF m 38 #[rv r0, iv 1, iv c1] [(.int (255 : Int32)), (.int c1)])) t → Steps p.tables e below (s₁.setTop (entryFrame m #[(.ref r0)] 3)) t := by
         intro t kt
         refine G19 _ ?_
         refine XS.icmpNo X14.here hx rfl (hb hby d8_31) rfl (feq hc31_20).1 ?_
         refine XS.iloadN X14.here hx rfl (hb hby d8_34) rfl ?_
         refine XS.sipush X14.here hx rfl (hb hby d8_35) ?_
         exact kt
        by_cases hc38_22 : (255 : Int32) < c1
        ·skip
         obtain ⟨fs, hr, hrun, hended, hW, hsame⟩ := X14.leave (v := some (.int (0 : Int32))) (fun h => by rw [Bd.returns] at h; cases h)
         refine ⟨_, _, G21 _ ?_, hrun, hended, _, _, rfl, ?_, ⟨_, rfl⟩, hW, hsame.mono (by decide) (by decide)⟩
         ·skip
          refine XS.icmpNo X14.here hx rfl (hb hby d8_38) rfl (tlt hc38_22).2.2.2 ?_
          refine XS.iconst X14.here hx rfl (hb hby d8_41) ?_
          exact retN X14 hx (t := .boolean) Bd.returns (by simp) (hb hby d8_42) hr
         ·show QrmFVL3 Z r0 c0 c1 c2 ta kb cst fv h0 n0 _ T14.heap _
          rw [eh14]
          exact ⟨by rw [own_fv, if_neg ((own_al c0).1 (by have q0 := hc19_5; have q1 := hc25_7; have q2 := hc31_9; have q3 := hc38_11; simp only [Int32.lt_iff_toInt_lt, ← Int32.toInt_inj, own_k9, own_k32, own_k127, own_k255] at q0 q1 q2 q3; omega)), own_fv, if_pos ((own_al c1).2 (by have q0 := hc19_16; have q1 := hc25_18; have q2 := hc31_20; have q3 := hc38_22; simp only [Int32.lt_iff_toInt_lt, ← Int32.toInt_inj, own_k9, own_k32, own_k127, own_k255] at q0 q1 q2 q3; omega))], N14, rfl⟩
        ·skip
         obtain ⟨cq23, kq23, q23a, q23b, q23c⟩ := isOf hZ eh14 E0
         obtain ⟨_, _, ⟨T23, L23, k23, n23⟩, -, X23, ⟨Lc23, hQ23, l23, y23, z23⟩, st23⟩ := X14.virtualBack hx (y := (⟨"java/lang/String", "length", "()I"⟩ : MethodName)) (z := (⟨"java/lang/String", "length", "()I"⟩ : MethodName)) hown (mvT hZ (hq hw 38 rfl)) (mvT hZ (hq hw 39 rfl)) (notFace_of_selects (args := #[]) (mvT hZ (hq hw 41 rfl))) (mvT hZ (hq hw 41 rfl)) (mvT hZ (hq hw 40 rfl)) (by decide) (backOf (W := 1) (rm9 l Z a0 hw [] r0 (0 : Int32) ta kb (3 : Int32) [(.int (nar .byte (c0.toInt8.toInt32))), (.int (nar .byte (c1.toInt8.toInt32))), (.int (nar .byte (c2.toInt8.toInt32)))] (3 : Int32) cst fv h0 n0 Z0 E0 Fc Fv V0 O0 (by decide) SS) hZ (hq hw 42 rfl) (hq hw 3 rfl) (by decide) (by decide)) q23a q23c (g := (mkF m 4 #[rv r0, iv 2, iv c1] [(.ref r0), (.int (2 : Int32))])) rfl (by rw [hml]; rfl) (Steps.refl _) (argsL := []) (rest := [(.int (2 : Int32))]) (lenOf pd_14 rfl) rfl (by show 2 * 0 + _ ≤ _; exact Nat.le_of_eq rfl) (hb hby d8_4) (fun _ _ => ⟨rfl, eh14, (by decide : 0 + 0 ≤ _), (by decide : 0 + 0 ≤ _)⟩)
         dsimp only [Pt.U, Pt.locs, Pt.cells, Pt.slots] at X23 l23 y23 z23 st23 hQ23
         subst l23 y23 z23
         obtain ⟨rfl, N23q, eh23⟩ := hQ23
         have N23 := Fr.app N14 N23q
         have G24 : ∀ t, Steps p.tables e below (T23.setTop (mkF m 7 #[rv r0, iv 2, iv c1] [(.int (3 : Int32)), (.int (2 : Int32))])) t → Steps p.tables e below (s₁.setTop (entryFrame m #[(.ref r0)] 3)) t := by
          intro t kt
          refine G21 _ ?_
          refine XS.icmpYes X14.here hx rfl (pc0 := 38) (pc' := 43) rfl (hb hby d8_38) rfl (flt hc38_22).2.2.2 (by decide) (by decide) ?_
          refine XS.iinc X14.here hx rfl (hb hby d8_43) rfl (l' := #[rv r0, iv 2, iv c1]) rfl ?_
          refine XS.goto X14.here hx rfl (pc0 := 46) (pc' := 2) rfl (hb hby d8_46) (by decide) (by decide) ?_
          refine XS.iloadN X14.here hx rfl (hb hby d8_2) rfl ?_
          refine XS.aloadN X14.here hx rfl (hb hby d8_3) rfl rfl ?_
          refine st23.trans ?_
          exact kt
         obtain ⟨cq25, kq25, q25a, q25b, q25c⟩ := isOf hZ eh23 E0
         obtain ⟨_, _, ⟨T25, L25, k25, n25⟩, -, X25, ⟨Lc25, hQ25, l25, y25, z25⟩, st25⟩ := X23.virtualBack hx (y := (⟨"java/lang/String", "charAt", "(I)C"⟩ : MethodName)) (z := (⟨"java/lang/String", "charAt", "(I)C"⟩ : MethodName)) hown (mvT hZ (hq hw 48 rfl)) (mvT hZ (hq hw 49 rfl)) (notFace_of_selects (args := #[]) (mvT hZ (hq hw 51 rfl))) (mvT hZ (hq hw 51 rfl)) (mvT hZ (hq hw 50 rfl)) (by decide) (backOf (W := 0) (rmChL l Z a0 hw [] r0 (2 : Int32) ta kb (3 : Int32) [(.int (nar .byte (c0.toInt8.toInt32))), (.int (nar .byte (c1.toInt8.toInt32))), (.int (nar .byte (c2.toInt8.toInt32)))] (nar .byte (c2.toInt8.toInt32)) c2 cst fv h0 n0 Z0 E0 Fc Fv V0 O0 (by decide) (by decide) rfl (own_lat c2 hb2 hl2) SS) hZ (hq hw 52 rfl) (hq hw 3 rfl) (by decide) (by decide)) q25a q25c (g := (mkF m 12 #[rv r0, iv 2, iv c1] [(.int (2 : Int32)), (.ref r0)])) rfl (by rw [hml]; rfl) (Steps.refl _) (argsL := [(.int (2 : Int32))]) (rest := []) (lenOf pd_15 rfl) rfl (by show 2 * 0 + _ ≤ _; exact Nat.le_of_eq rfl) (hb hby d8_12) (fun _ _ => ⟨rfl, eh23, (by decide : 0 + 0 ≤ _), (by decide : 0 + 0 ≤ _)⟩)
         dsimp only [Pt.U, Pt.locs, Pt.cells, Pt.slots] at X25 l25 y25 z25 st25 hQ25
         subst l25 y25 z25
         obtain ⟨rfl, N25q, eh25⟩ := hQ25
         have N25 := Fr.app N23 N25q
         have G26 : ∀ t, Steps p.tables e below (T25.setTop (mkF m 19 #[rv r0, iv 2, iv c2] [(.int (32 : Int32)), (.int c2)])) t → Steps p.tables e below (s₁.setTop (entryFrame m #[(.ref r0)] 3)) t := by
          intro t kt
          refine G24 _ ?_
          refine XS.icmpNo X23.here hx rfl (hb hby d8_7) rfl (tlt (by decide)).2.1 ?_
          show Steps p.tables e below (T23.setTop (mkF m 10 #[rv r0, iv 2, iv c1] [])) _
          refine XS.aloadN X23.here hx rfl (hb hby d8_10) rfl rfl ?_
          refine XS.iloadN X23.here hx rfl (hb hby d8_11) rfl ?_
          refine st25.trans ?_
          refine XS.istoreN X25.here hx rfl (hb hby d8_15) rfl (l' := #[rv r0, iv 2, iv c2]) rfl ?_
          refine XS.iloadN X25.here hx rfl (hb hby d8_16) rfl ?_
          refine XS.bipush X25.here hx rfl (hb hby d8_17) ?_
          exact kt
         by_cases hc19_27 : c2 < (32 : Int32)
         ·skip
          have G28 : ∀ t, Steps p.tables e below (T25.setTop (mkF m 25 #[rv r0, iv 2, iv c2] [(.int (9 : Int32)), (.int c2)])) t → Steps p.tables e below (s₁.setTop (entryFrame m #[(.ref r0)] 3)) t := by
           intro t kt
           refine G26 _ ?_
           refine XS.icmpNo X25.here hx rfl (hb hby d8_19) rfl (tlt hc19_27).2.1 ?_
           refine XS.iloadN X25.here hx rfl (hb hby d8_22) rfl ?_
           refine XS.bipush X25.here hx rfl (hb hby d8_23) ?_
           exact kt
          by_cases hc25_29 : c2 = (9 : Int32)
          ·skip
           have G30 : ∀ t, Steps p.tables e below (T25.setTop (mkF m 31 #[rv r0, iv 2, iv c2] [(.int (127 : Int32)), (.int c2)])) t → Steps p.tables e below (s₁.setTop (entryFrame m #[(.ref r0)] 3)) t := by
            intro t kt
            refine G28 _ ?_
            refine XS.icmpNo X25.here hx rfl (hb hby d8_25) rfl (teq hc25_29).2 ?_
            refine XS.iloadN X25.here hx rfl (hb hby d8_28) rfl ?_
            refine XS.bipush X25.here hx rfl (hb hby d8_29) ?_
            exact kt
           by_cases hc31_31 : c2 = (127 : Int32)
           ·skip
            obtain ⟨fs, hr, hrun, hended, hW, hsame⟩ := X25.leave (v := some (.int (0 : Int32))) (fun h => by rw [Bd.returns] at h; cases h)
            refine ⟨_, _, G30 _ ?_, hrun, hended, _, _, rfl, ?_, ⟨_, rfl⟩, hW, hsame.mono (by decide) (by decide)⟩
            ·skip
             refine XS.icmpYes X25.here hx rfl (pc0 := 31) (pc' := 41) rfl (hb hby d8_31) rfl (teq hc31_31).1 (by decide) (by decide) ?_
             refine XS.iconst X25.here hx rfl (hb hby d8_41) ?_
             exact retN X25 hx (t := .boolean) Bd.returns (by simp) (hb hby d8_42) hr
            ·show QrmFVL3 Z r0 c0 c1 c2 ta kb cst fv h0 n0 _ T25.heap _
             rw [eh25]
             exact ⟨by rw [own_fv, if_neg ((own_al c0).1 (by have q0 := hc19_5; have q1 := hc25_7; have q2 := hc31_9; have q3 := hc38_11; simp only [Int32.lt_iff_toInt_lt, ← Int32.toInt_inj, own_k9, own_k32, own_k127, own_k255] at q0 q1 q2 q3; omega)), own_fv, if_neg ((own_al c1).1 (by have q0 := hc19_16; have q1 := hc25_18; have q2 := hc31_20; have q3 := hc38_22; simp only [Int32.lt_iff_toInt_lt, ← Int32.toInt_inj, own_k9, own_k32, own_k127, own_k255] at q0 q1 q2 q3; omega)), own_fv, if_pos ((own_al c2).2 (by have q0 := hc19_27; have q1 := hc25_29; have q2 := hc31_31; simp only [Int32.lt_iff_toInt_lt, ← Int32.toInt_inj, own_k9, own_k32, own_k127, own_k255] at q0 q1 q2; omega))], N25, rfl⟩
           ·skip
            have G32 : ∀ t, Steps p.tables e below (T25.setTop (mkF m 38 #[rv r0, iv 2, iv c2] [(.int (255 : Int32)), (.int c2)])) t → Steps p.tables e below (s₁.setTop (entryFrame m #[(.ref r0)] 3)) t := by
             intro t kt
             refine G30 _ ?_
             refine XS.icmpNo X25.here hx rfl (hb hby d8_31) rfl (feq hc31_31).1 ?_
             refine XS.iloadN X25.here hx rfl (hb hby d8_34) rfl ?_
             refine XS.sipush X25.here hx rfl (hb hby d8_35) ?_
             exact kt
            by_cases hc38_33 : (255 : Int32) < c2
            ·skip
             obtain ⟨fs, hr, hrun, hended, hW, hsame⟩ := X25.leave (v := some (.int (0 : Int32))) (fun h => by rw [Bd.returns] at h; cases h)
             refine ⟨_, _, G32 _ ?_, hrun, hended, _, _, rfl, ?_, ⟨_, rfl⟩, hW, hsame.mono (by decide) (by decide)⟩
             ·skip
              refine XS.icmpNo X25.here hx rfl (hb hby d8_38) rfl (tlt hc38_33).2.2.2 ?_
              refine XS.iconst X25.here hx rfl (hb hby d8_41) ?_
              exact retN X25 hx (t := .boolean) Bd.returns (by simp) (hb hby d8_42) hr
             ·show QrmFVL3 Z r0 c0 c1 c2 ta kb cst fv h0 n0 _ T25.heap _
              rw [eh25]
              exact ⟨by rw [own_fv, if_neg ((own_al c0).1 (by have q0 := hc19_5; have q1 := hc25_7; have q2 := hc31_9; have q3 := hc38_11; simp only [Int32.lt_iff_toInt_lt, ← Int32.toInt_inj, own_k9, own_k32, own_k127, own_k255] at q0 q1 q2 q3; omega)), own_fv, if_neg ((own_al c1).1 (by have q0 := hc19_16; have q1 := hc25_18; have q2 := hc31_20; have q3 := hc38_22; simp only [Int32.lt_iff_toInt_lt, ← Int32.toInt_inj, own_k9, own_k32, own_k127, own_k255] at q0 q1 q2 q3; omega)), own_fv, if_pos ((own_al c2).2 (by have q0 := hc19_27; have q1 := hc25_29; have q2 := hc31_31; have q3 := hc38_33; simp only [Int32.lt_iff_toInt_lt, ← Int32.toInt_inj, own_k9, own_k32, own_k127, own_k255] at q0 q1 q2 q3; omega))], N25, rfl⟩
            ·skip
             obtain ⟨cq34, kq34, q34a, q34b, q34c⟩ := isOf hZ eh25 E0
             obtain ⟨_, _, ⟨T34, L34, k34, n34⟩, -, X34, ⟨Lc34, hQ34, l34, y34, z34⟩, st34⟩ := X25.virtualBack hx (y := (⟨"java/lang/String", "length", "()I"⟩ : MethodName)) (z := (⟨"java/lang/String", "length", "()I"⟩ : MethodName)) hown (mvT hZ (hq hw 38 rfl)) (mvT hZ (hq hw 39 rfl)) (notFace_of_selects (args := #[]) (mvT hZ (hq hw 41 rfl))) (mvT hZ (hq hw 41 rfl)) (mvT hZ (hq hw 40 rfl)) (by decide) (backOf (W := 1) (rm9 l Z a0 hw [] r0 (0 : Int32) ta kb (3 : Int32) [(.int (nar .byte (c0.toInt8.toInt32))), (.int (nar .byte (c1.toInt8.toInt32))), (.int (nar .byte (c2.toInt8.toInt32)))] (3 : Int32) cst fv h0 n0 Z0 E0 Fc Fv V0 O0 (by decide) SS) hZ (hq hw 42 rfl) (hq hw 3 rfl) (by decide) (by decide)) q34a q34c (g := (mkF m 4 #[rv r0, iv 3, iv c2] [(.ref r0), (.int (3 : Int32))])) rfl (by rw [hml]; rfl) (Steps.refl _) (argsL := []) (rest := [(.int (3 : Int32))]) (lenOf pd_14 rfl) rfl (by show 2 * 0 + _ ≤ _; exact Nat.le_of_eq rfl) (hb hby d8_4) (fun _ _ => ⟨rfl, eh25, (by decide : 0 + 0 ≤ _), (by decide : 0 + 0 ≤ _)⟩)
             dsimp only [Pt.U, Pt.locs, Pt.cells, Pt.slots] at X34 l34 y34 z34 st34 hQ34
             subst l34 y34 z34
             obtain ⟨rfl, N34q, eh34⟩ := hQ34
             have N34 := Fr.app N25 N34q
             have G35 : ∀ t, Steps p.tables e below (T34.setTop (mkF m 7 #[rv r0, iv 3, iv c2] [(.int (3 : Int32)), (.int (3 : Int32))])) t → Steps p.tables e below (s₁.setTop (entryFrame m #[(.ref r0)] 3)) t := by
              intro t kt
              refine G32 _ ?_
              refine XS.icmpYes X25.here hx rfl (pc0 := 38) (pc' := 43) rfl (hb hby d8_38) rfl (flt hc38_33).2.2.2 (by decide) (by decide) ?_
              refine XS.iinc X25.here hx rfl (hb hby d8_43) rfl (l' := #[rv r0, iv 3, iv c2]) rfl ?_
              refine XS.goto X25.here hx rfl (pc0 := 46) (pc' := 2) rfl (hb hby d8_46) (by decide) (by decide) ?_
              refine XS.iloadN X25.here hx rfl (hb hby d8_2) rfl ?_
              refine XS.aloadN X25.here hx rfl (hb hby d8_3) rfl rfl ?_
              refine st34.trans ?_
              exact kt
             obtain ⟨fs, hr, hrun, hended, hW, hsame⟩ := X34.leave (v := some (.int (1 : Int32))) (fun h => by rw [Bd.returns] at h; cases h)
             refine ⟨_, _, G35 _ ?_, hrun, hended, _, _, rfl, ?_, ⟨_, rfl⟩, hW, hsame.mono (by decide) (by decide)⟩
             ·skip
              refine XS.icmpYes X34.here hx rfl (pc0 := 7) (pc' := 49) rfl (hb hby d8_7) rfl (flt (by decide)).2.1 (by decide) (by decide) ?_
              refine XS.iconst X34.here hx rfl (hb hby d8_49) ?_
              exact retN X34 hx (t := .boolean) Bd.returns (by simp) (hb hby d8_50) hr
             ·show QrmFVL3 Z r0 c0 c1 c2 ta kb cst fv h0 n0 _ T34.heap _
              rw [eh34]
              exact ⟨by rw [own_fv, if_neg ((own_al c0).1 (by have q0 := hc19_5; have q1 := hc25_7; have q2 := hc31_9; have q3 := hc38_11; simp only [Int32.lt_iff_toInt_lt, ← Int32.toInt_inj, own_k9, own_k32, own_k127, own_k255] at q0 q1 q2 q3; omega)), own_fv, if_neg ((own_al c1).1 (by have q0 := hc19_16; have q1 := hc25_18; have q2 := hc31_20; have q3 := hc38_22; simp only [Int32.lt_iff_toInt_lt, ← Int32.toInt_inj, own_k9, own_k32, own_k127, own_k255] at q0 q1 q2 q3; omega)), own_fv, if_neg ((own_al c2).1 (by have q0 := hc19_27; have q1 := hc25_29; have q2 := hc31_31; have q3 := hc38_33; simp only [Int32.lt_iff_toInt_lt, ← Int32.toInt_inj, own_k9, own_k32, own_k127, own_k255] at q0 q1 q2 q3; omega)), own_fv], N34, rfl⟩
          ·skip
           obtain ⟨fs, hr, hrun, hended, hW, hsame⟩ := X25.leave (v := some (.int (0 : Int32))) (fun h => by rw [Bd.returns] at h; cases h)
           refine ⟨_, _, G28 _ ?_, hrun, hended, _, _, rfl, ?_, ⟨_, rfl⟩, hW, hsame.mono (by decide) (by decide)⟩
           ·skip
            refine XS.icmpYes X25.here hx rfl (pc0 := 25) (pc' := 41) rfl (hb hby d8_25) rfl (feq hc25_29).2 (by decide) (by decide) ?_
            refine XS.iconst X25.here hx rfl (hb hby d8_41) ?_
            exact retN X25 hx (t := .boolean) Bd.returns (by simp) (hb hby d8_42) hr
           ·show QrmFVL3 Z r0 c0 c1 c2 ta kb cst fv h0 n0 _ T25.heap _
            rw [eh25]
            exact ⟨by rw [own_fv, if_neg ((own_al c0).1 (by have q0 := hc19_5; have q1 := hc25_7; have q2 := hc31_9; have q3 := hc38_11; simp only [Int32.lt_iff_toInt_lt, ← Int32.toInt_inj, own_k9, own_k32, own_k127, own_k255] at q0 q1 q2 q3; omega)), own_fv, if_neg ((own_al c1).1 (by have q0 := hc19_16; have q1 := hc25_18; have q2 := hc31_20; have q3 := hc38_22; simp only [Int32.lt_iff_toInt_lt, ← Int32.toInt_inj, own_k9, own_k32, own_k127, own_k255] at q0 q1 q2 q3; omega)), own_fv, if_pos ((own_al c2).2 (by have q0 := hc19_27; have q1 := hc25_29; simp only [Int32.lt_iff_toInt_lt, ← Int32.toInt_inj, own_k9, own_k32, own_k127, own_k255] at q0 q1; omega))], N25, rfl⟩
         ·skip
          have G36 : ∀ t, Steps p.tables e below (T25.setTop (mkF m 31 #[rv r0, iv 2, iv c2] [(.int (127 : Int32)), (.int c2)])) t → Steps p.tables e below (s₁.setTop (entryFrame m #[(.ref r0)] 3)) t := by
           intro t kt
           refine G26 _ ?_
           refine XS.icmpYes X25.here hx rfl (pc0 := 19) (pc' := 28) rfl (hb hby d8_19) rfl (flt hc19_27).2.1 (by decide) (by decide) ?_
           refine XS.iloadN X25.here hx rfl (hb hby d8_28) rfl ?_
           refine XS.bipush X25.here hx rfl (hb hby d8_29) ?_
           exact kt
          by_cases hc31_37 : c2 = (127 : Int32)
          ·skip
           obtain ⟨fs, hr, hrun, hended, hW, hsame⟩ := X25.leave (v := some (.int (0 : Int32))) (fun h => by rw [Bd.returns] at h; cases h)
           refine ⟨_, _, G36 _ ?_, hrun, hended, _, _, rfl, ?_, ⟨_, rfl⟩, hW, hsame.mono (by decide) (by decide)⟩
           ·skip
            refine XS.icmpYes X25.here hx rfl (pc0 := 31) (pc' := 41) rfl (hb hby d8_31) rfl (teq hc31_37).1 (by decide) (by decide) ?_
            refine XS.iconst X25.here hx rfl (hb hby d8_41) ?_
            exact retN X25 hx (t := .boolean) Bd.returns (by simp) (hb hby d8_42) hr
           ·show QrmFVL3 Z r0 c0 c1 c2 ta kb cst fv h0 n0 _ T25.heap _
            rw [eh25]
            exact ⟨by rw [own_fv, if_neg ((own_al c0).1 (by have q0 := hc19_5; have q1 := hc25_7; have q2 := hc31_9; have q3 := hc38_11; simp only [Int32.lt_iff_toInt_lt, ← Int32.toInt_inj, own_k9, own_k32, own_k127, own_k255] at q0 q1 q2 q3; omega)), own_fv, if_neg ((own_al c1).1 (by have q0 := hc19_16; have q1 := hc25_18; have q2 := hc31_20; have q3 := hc38_22; simp only [Int32.lt_iff_toInt_lt, ← Int32.toInt_inj, own_k9, own_k32, own_k127, own_k255] at q0 q1 q2 q3; omega)), own_fv, if_pos ((own_al c2).2 (by have q0 := hc19_27; have q1 := hc31_37; simp only [Int32.lt_iff_toInt_lt, ← Int32.toInt_inj, own_k9, own_k32, own_k127, own_k255] at q0 q1; omega))], N25, rfl⟩
          ·skip
           have G38 : ∀ t, Steps p.tables e below (T25.setTop (mkF m 38 #[rv r0, iv 2, iv c2] [(.int (255 : Int32)), (.int c2)])) t → Steps p.tables e below (s₁.setTop (entryFrame m #[(.ref r0)] 3)) t := by
            intro t kt
            refine G36 _ ?_
            refine XS.icmpNo X25.here hx rfl (hb hby d8_31) rfl (feq hc31_37).1 ?_
            refine XS.iloadN X25.here hx rfl (hb hby d8_34) rfl ?_
            refine XS.sipush X25.here hx rfl (hb hby d8_35) ?_
            exact kt
           by_cases hc38_39 : (255 : Int32) < c2
           ·skip
            obtain ⟨fs, hr, hrun, hended, hW, hsame⟩ := X25.leave (v := some (.int (0 : Int32))) (fun h => by rw [Bd.returns] at h; cases h)
            refine ⟨_, _, G38 _ ?_, hrun, hended, _, _, rfl, ?_, ⟨_, rfl⟩, hW, hsame.mono (by decide) (by decide)⟩
            ·skip
             refine XS.icmpNo X25.here hx rfl (hb hby d8_38) rfl (tlt hc38_39).2.2.2 ?_
             refine XS.iconst X25.here hx rfl (hb hby d8_41) ?_
             exact retN X25 hx (t := .boolean) Bd.returns (by simp) (hb hby d8_42) hr
            ·show QrmFVL3 Z r0 c0 c1 c2 ta kb cst fv h0 n0 _ T25.heap _
             rw [eh25]
             exact ⟨by rw [own_fv, if_neg ((own_al c0).1 (by have q0 := hc19_5; have q1 := hc25_7; have q2 := hc31_9; have q3 := hc38_11; simp only [Int32.lt_iff_toInt_lt, ← Int32.toInt_inj, own_k9, own_k32, own_k127, own_k255] at q0 q1 q2 q3; omega)), own_fv, if_neg ((own_al c1).1 (by have q0 := hc19_16; have q1 := hc25_18; have q2 := hc31_20; have q3 := hc38_22; simp only [Int32.lt_iff_toInt_lt, ← Int32.toInt_inj, own_k9, own_k32, own_k127, own_k255] at q0 q1 q2 q3; omega)), own_fv, if_pos ((own_al c2).2 (by have q0 := hc19_27; have q1 := hc31_37; have q2 := hc38_39; simp only [Int32.lt_iff_toInt_lt, ← Int32.toInt_inj, own_k9, own_k32, own_k127, own_k255] at q0 q1 q2; omega))], N25, rfl⟩
           ·skip
            obtain ⟨cq40, kq40, q40a, q40b, q40c⟩ := isOf hZ eh25 E0
            obtain ⟨_, _, ⟨T40, L40, k40, n40⟩, -, X40, ⟨Lc40, hQ40, l40, y40, z40⟩, st40⟩ := X25.virtualBack hx (y := (⟨"java/lang/String", "length", "()I"⟩ : MethodName)) (z := (⟨"java/lang/String", "length", "()I"⟩ : MethodName)) hown (mvT hZ (hq hw 38 rfl)) (mvT hZ (hq hw 39 rfl)) (notFace_of_selects (args := #[]) (mvT hZ (hq hw 41 rfl))) (mvT hZ (hq hw 41 rfl)) (mvT hZ (hq hw 40 rfl)) (by decide) (backOf (W := 1) (rm9 l Z a0 hw [] r0 (0 : Int32) ta kb (3 : Int32) [(.int (nar .byte (c0.toInt8.toInt32))), (.int (nar .byte (c1.toInt8.toInt32))), (.int (nar .byte (c2.toInt8.toInt32)))] (3 : Int32) cst fv h0 n0 Z0 E0 Fc Fv V0 O0 (by decide) SS) hZ (hq hw 42 rfl) (hq hw 3 rfl) (by decide) (by decide)) q40a q40c (g := (mkF m 4 #[rv r0, iv 3, iv c2] [(.ref r0), (.int (3 : Int32))])) rfl (by rw [hml]; rfl) (Steps.refl _) (argsL := []) (rest := [(.int (3 : Int32))]) (lenOf pd_14 rfl) rfl (by show 2 * 0 + _ ≤ _; exact Nat.le_of_eq rfl) (hb hby d8_4) (fun _ _ => ⟨rfl, eh25, (by decide : 0 + 0 ≤ _), (by decide : 0 + 0 ≤ _)⟩)
            dsimp only [Pt.U, Pt.locs, Pt.cells, Pt.slots] at X40 l40 y40 z40 st40 hQ40
            subst l40 y40 z40
            obtain ⟨rfl, N40q, eh40⟩ := hQ40
            have N40 := Fr.app N25 N40q
            have G41 : ∀ t, Steps p.tables e below (T40.setTop (mkF m 7 #[rv r0, iv 3, iv c2] [(.int (3 : Int32)), (.int (3 : Int32))])) t → Steps p.tables e below (s₁.setTop (entryFrame m #[(.ref r0)] 3)) t := by
             intro t kt
             refine G38 _ ?_
             refine XS.icmpYes X25.here hx rfl (pc0 := 38) (pc' := 43) rfl (hb hby d8_38) rfl (flt hc38_39).2.2.2 (by decide) (by decide) ?_
             refine XS.iinc X25.here hx rfl (hb hby d8_43) rfl (l' := #[rv r0, iv 3, iv c2]) rfl ?_
             refine XS.goto X25.here hx rfl (pc0 := 46) (pc' := 2) rfl (hb hby d8_46) (by decide) (by decide) ?_
             refine XS.iloadN X25.here hx rfl (hb hby d8_2) rfl ?_
             refine XS.aloadN X25.here hx rfl (hb hby d8_3) rfl rfl ?_
             refine st40.trans ?_
             exact kt
            obtain ⟨fs, hr, hrun, hended, hW, hsame⟩ := X40.leave (v := some (.int (1 : Int32))) (fun h => by rw [Bd.returns] at h; cases h)
            refine ⟨_, _, G41 _ ?_, hrun, hended, _, _, rfl, ?_, ⟨_, rfl⟩, hW, hsame.mono (by decide) (by decide)⟩
            ·skip
             refine XS.icmpYes X40.here hx rfl (pc0 := 7) (pc' := 49) rfl (hb hby d8_7) rfl (flt (by decide)).2.1 (by decide) (by decide) ?_
             refine XS.iconst X40.here hx rfl (hb hby d8_49) ?_
             exact retN X40 hx (t := .boolean) Bd.returns (by simp) (hb hby d8_50) hr
            ·show QrmFVL3 Z r0 c0 c1 c2 ta kb cst fv h0 n0 _ T40.heap _
             rw [eh40]
             exact ⟨by rw [own_fv, if_neg ((own_al c0).1 (by have q0 := hc19_5; have q1 := hc25_7; have q2 := hc31_9; have q3 := hc38_11; simp only [Int32.lt_iff_toInt_lt, ← Int32.toInt_inj, own_k9, own_k32, own_k127, own_k255] at q0 q1 q2 q3; omega)), own_fv, if_neg ((own_al c1).1 (by have q0 := hc19_16; have q1 := hc25_18; have q2 := hc31_20; have q3 := hc38_22; simp only [Int32.lt_iff_toInt_lt, ← Int32.toInt_inj, own_k9, own_k32, own_k127, own_k255] at q0 q1 q2 q3; omega)), own_fv, if_neg ((own_al c2).1 (by have q0 := hc19_27; have q1 := hc31_37; have q2 := hc38_39; simp only [Int32.lt_iff_toInt_lt, ← Int32.toInt_inj, own_k9, own_k32, own_k127, own_k255] at q0 q1 q2; omega)), own_fv], N40, rfl⟩
      ·skip
       obtain ⟨fs, hr, hrun, hended, hW, hsame⟩ := X14.leave (v := some (.int (0 : Int32))) (fun h => by rw [Bd.returns] at h; cases h)
       refine ⟨_, _, G17 _ ?_, hrun, hended, _, _, rfl, ?_, ⟨_, rfl⟩, hW, hsame.mono (by decide) (by decide)⟩
       ·skip
        refine XS.icmpYes X14.here hx rfl (pc0 := 25) (pc' := 41) rfl (hb hby d8_25) rfl (feq hc25_18).2 (by decide) (by decide) ?_
        refine XS.iconst X14.here hx rfl (hb hby d8_41) ?_
        exact retN X14 hx (t := .boolean) Bd.returns (by simp) (hb hby d8_42) hr
       ·show QrmFVL3 Z r0 c0 c1 c2 ta kb cst fv h0 n0 _ T14.heap _
        rw [eh14]
        exact ⟨by rw [own_fv, if_neg ((own_al c0).1 (by have q0 := hc19_5; have q1 := hc25_7; have q2 := hc31_9; have q3 := hc38_11; simp only [Int32.lt_iff_toInt_lt, ← Int32.toInt_inj, own_k9, own_k32, own_k127, own_k255] at q0 q1 q2 q3; omega)), own_fv, if_pos ((own_al c1).2 (by have q0 := hc19_16; have q1 := hc25_18; simp only [Int32.lt_iff_toInt_lt, ← Int32.toInt_inj, own_k9, own_k32, own_k127, own_k255] at q0 q1; omega))], N14, rfl⟩
     ·skip
      have G42 : ∀ t, Steps p.tables e below (T14.setTop (mkF m 31 #[rv r0, iv 1, iv c1] [(.int (127 : Int32)), (.int c1)])) t → Steps p.tables e below (s₁.setTop (entryFrame m #[(.ref r0)] 3)) t := by
       intro t kt
       refine G15 _ ?_
       refine XS.icmpYes X14.here hx rfl (pc0 := 19) (pc' := 28) rfl (hb hby d8_19) rfl (flt hc19_16).2.1 (by decide) (by decide) ?_
       refine XS.iloadN X14.here hx rfl (hb hby d8_28) rfl ?_
       refine XS.bipush X14.here hx rfl (hb hby d8_29) ?_
       exact kt
      by_cases hc31_43 : c1 = (127 : Int32)
      ·skip
       obtain ⟨fs, hr, hrun, hended, hW, hsame⟩ := X14.leave (v := some (.int (0 : Int32))) (fun h => by rw [Bd.returns] at h; cases h)
       refine ⟨_, _, G42 _ ?_, hrun, hended, _, _, rfl, ?_, ⟨_, rfl⟩, hW, hsame.mono (by decide) (by decide)⟩
       ·skip
        refine XS.icmpYes X14.here hx rfl (pc0 := 31) (pc' := 41) rfl (hb hby d8_31) rfl (teq hc31_43).1 (by decide) (by decide) ?_
        refine XS.iconst X14.here hx rfl (hb hby d8_41) ?_
        exact retN X14 hx (t := .boolean) Bd.returns (by simp) (hb hby d8_42) hr
       ·show QrmFVL3 Z r0 c0 c1 c2 ta kb cst fv h0 n0 _ T14.heap _
        rw [eh14]
        exact ⟨by rw [own_fv, if_neg ((own_al c0).1 (by have q0 := hc19_5; have q1 := hc25_7; have q2 := hc31_9; have q3 := hc38_11; simp only [Int32.lt_iff_toInt_lt, ← Int32.toInt_inj, own_k9, own_k32, own_k127, own_k255] at q0 q1 q2 q3; omega)), own_fv, if_pos ((own_al c1).2 (by have q0 := hc19_16; have q1 := hc31_43; simp only [Int32.lt_iff_toInt_lt, ← Int32.toInt_inj, own_k9, own_k32, own_k127, own_k255] at q0 q1; omega))], N14, rfl⟩
      ·skip
       have G44 : ∀ t, Steps p.tables e below (T14.setTop (mkF m 38 #[rv r0, iv 1, iv c1] [(.int (255 : Int32)), (.int c1)])) t → Steps p.tables e below (s₁.setTop (entryFrame m #[(.ref r0)] 3)) t := by
        intro t kt
        refine G42 _ ?_
        refine XS.icmpNo X14.here hx rfl (hb hby d8_31) rfl (feq hc31_43).1 ?_
        refine XS.iloadN X14.here hx rfl (hb hby d8_34) rfl ?_
        refine XS.sipush X14.here hx rfl (hb hby d8_35) ?_
        exact kt
       by_cases hc38_45 : (255 : Int32) < c1
       ·skip
        obtain ⟨fs, hr, hrun, hended, hW, hsame⟩ := X14.leave (v := some (.int (0 : Int32))) (fun h => by rw [Bd.returns] at h; cases h)
        refine ⟨_, _, G44 _ ?_, hrun, hended, _, _, rfl, ?_, ⟨_, rfl⟩, hW, hsame.mono (by decide) (by decide)⟩
        ·skip
         refine XS.icmpNo X14.here hx rfl (hb hby d8_38) rfl (tlt hc38_45).2.2.2 ?_
         refine XS.iconst X14.here hx rfl (hb hby d8_41) ?_
         exact retN X14 hx (t := .boolean) Bd.returns (by simp) (hb hby d8_42) hr
        ·show QrmFVL3 Z r0 c0 c1 c2 ta kb cst fv h0 n0 _ T14.heap _
         rw [eh14]
         exact ⟨by rw [own_fv, if_neg ((own_al c0).1 (by have q0 := hc19_5; have q1 := hc25_7; have q2 := hc31_9; have q3 := hc38_11; simp only [Int32.lt_iff_toInt_lt, ← Int32.toInt_inj, own_k9, own_k32, own_k127, own_k255] at q0 q1 q2 q3; omega)), own_fv, if_pos ((own_al c1).2 (by have q0 := hc19_16; have q1 := hc31_43; have q2 := hc38_45; simp only [Int32.lt_iff_toInt_lt, ← Int32.toInt_inj, own_k9, own_k32, own_k127, own_k255] at q0 q1 q2; omega))], N14, rfl⟩
       ·skip
        obtain ⟨cq46, kq46, q46a, q46b, q46c⟩ := isOf hZ eh14 E0
        obtain ⟨_, _, ⟨T46, L46, k46, n46⟩, -, X46, ⟨Lc46, hQ46, l46, y46, z46⟩, st46⟩ := X14.virtualBack hx (y := (⟨"java/lang/String", "length", "()I"⟩ : MethodName)) (z := (⟨"java/lang/String", "length", "()I"⟩ : MethodName)) hown (mvT hZ (hq hw 38 rfl)) (mvT hZ (hq hw 39 rfl)) (notFace_of_selects (args := #[]) (mvT hZ (hq hw 41 rfl))) (mvT hZ (hq hw 41 rfl)) (mvT hZ (hq hw 40 rfl)) (by decide) (backOf (W := 1) (rm9 l Z a0 hw [] r0 (0 : Int32) ta kb (3 : Int32) [(.int (nar .byte (c0.toInt8.toInt32))), (.int (nar .byte (c1.toInt8.toInt32))), (.int (nar .byte (c2.toInt8.toInt32)))] (3 : Int32) cst fv h0 n0 Z0 E0 Fc Fv V0 O0 (by decide) SS) hZ (hq hw 42 rfl) (hq hw 3 rfl) (by decide) (by decide)) q46a q46c (g := (mkF m 4 #[rv r0, iv 2, iv c1] [(.ref r0), (.int (2 : Int32))])) rfl (by rw [hml]; rfl) (Steps.refl _) (argsL := []) (rest := [(.int (2 : Int32))]) (lenOf pd_14 rfl) rfl (by show 2 * 0 + _ ≤ _; exact Nat.le_of_eq rfl) (hb hby d8_4) (fun _ _ => ⟨rfl, eh14, (by decide : 0 + 0 ≤ _), (by decide : 0 + 0 ≤ _)⟩)
        dsimp only [Pt.U, Pt.locs, Pt.cells, Pt.slots] at X46 l46 y46 z46 st46 hQ46
        subst l46 y46 z46
        obtain ⟨rfl, N46q, eh46⟩ := hQ46
        have N46 := Fr.app N14 N46q
        have G47 : ∀ t, Steps p.tables e below (T46.setTop (mkF m 7 #[rv r0, iv 2, iv c1] [(.int (3 : Int32)), (.int (2 : Int32))])) t → Steps p.tables e below (s₁.setTop (entryFrame m #[(.ref r0)] 3)) t := by
         intro t kt
         refine G44 _ ?_
         refine XS.icmpYes X14.here hx rfl (pc0 := 38) (pc' := 43) rfl (hb hby d8_38) rfl (flt hc38_45).2.2.2 (by decide) (by decide) ?_
         refine XS.iinc X14.here hx rfl (hb hby d8_43) rfl (l' := #[rv r0, iv 2, iv c1]) rfl ?_
         refine XS.goto X14.here hx rfl (pc0 := 46) (pc' := 2) rfl (hb hby d8_46) (by decide) (by decide) ?_
         refine XS.iloadN X14.here hx rfl (hb hby d8_2) rfl ?_
         refine XS.aloadN X14.here hx rfl (hb hby d8_3) rfl rfl ?_
         refine st46.trans ?_
         exact kt
        obtain ⟨cq48, kq48, q48a, q48b, q48c⟩ := isOf hZ eh46 E0
        obtain ⟨_, _, ⟨T48, L48, k48, n48⟩, -, X48, ⟨Lc48, hQ48, l48, y48, z48⟩, st48⟩ := X46.virtualBack hx (y := (⟨"java/lang/String", "charAt", "(I)C"⟩ : MethodName)) (z := (⟨"java/lang/String", "charAt", "(I)C"⟩ : MethodName)) hown (mvT hZ (hq hw 48 rfl)) (mvT hZ (hq hw 49 rfl)) (notFace_of_selects (args := #[]) (mvT hZ (hq hw 51 rfl))) (mvT hZ (hq hw 51 rfl)) (mvT hZ (hq hw 50 rfl)) (by decide) (backOf (W := 0) (rmChL l Z a0 hw [] r0 (2 : Int32) ta kb (3 : Int32) [(.int (nar .byte (c0.toInt8.toInt32))), (.int (nar .byte (c1.toInt8.toInt32))), (.int (nar .byte (c2.toInt8.toInt32)))] (nar .byte (c2.toInt8.toInt32)) c2 cst fv h0 n0 Z0 E0 Fc Fv V0 O0 (by decide) (by decide) rfl (own_lat c2 hb2 hl2) SS) hZ (hq hw 52 rfl) (hq hw 3 rfl) (by decide) (by decide)) q48a q48c (g := (mkF m 12 #[rv r0, iv 2, iv c1] [(.int (2 : Int32)), (.ref r0)])) rfl (by rw [hml]; rfl) (Steps.refl _) (argsL := [(.int (2 : Int32))]) (rest := []) (lenOf pd_15 rfl) rfl (by show 2 * 0 + _ ≤ _; exact Nat.le_of_eq rfl) (hb hby d8_12) (fun _ _ => ⟨rfl, eh46, (by decide : 0 + 0 ≤ _), (by decide : 0 + 0 ≤ _)⟩)
        dsimp only [Pt.U, Pt.locs, Pt.cells, Pt.slots] at X48 l48 y48 z48 st48 hQ48
        subst l48 y48 z48
        obtain ⟨rfl, N48q, eh48⟩ := hQ48
        have N48 := Fr.app N46 N48q
        have G49 : ∀ t, Steps p.tables e below (T48.setTop (mkF m 19 #[rv r0, iv 2, iv c2] [(.int (32 : Int32)), (.int c2)])) t → Steps p.tables e below (s₁.setTop (entryFrame m #[(.ref r0)] 3)) t := by
         intro t kt
         refine G47 _ ?_
         refine XS.icmpNo X46.here hx rfl (hb hby d8_7) rfl (tlt (by decide)).2.1 ?_
         refine XS.aloadN X46.here hx rfl (hb hby d8_10) rfl rfl ?_
         refine XS.iloadN X46.here hx rfl (hb hby d8_11) rfl ?_
         show Steps p.tables e below (T46.setTop (mkF m 12 #[rv r0, iv 2, iv c1] [(.int (2 : Int32)), (.ref r0)])) _
         refine st48.trans ?_
         refine XS.istoreN X48.here hx rfl (hb hby d8_15) rfl (l' := #[rv r0, iv 2, iv c2]) rfl ?_
         refine XS.iloadN X48.here hx rfl (hb hby d8_16) rfl ?_
         refine XS.bipush X48.here hx rfl (hb hby d8_17) ?_
         exact kt
        by_cases hc19_50 : c2 < (32 : Int32)
        ·skip
         have G51 : ∀ t, Steps p.tables e below (T48.setTop (mkF m 25 #[rv r0, iv 2, iv c2] [(.int (9 : Int32)), (.int c2)])) t → Steps p.tables e below (s₁.setTop (entryFrame m #[(.ref r0)] 3)) t := by
          intro t kt
          refine G49 _ ?_
          refine XS.icmpNo X48.here hx rfl (hb hby d8_19) rfl (tlt hc19_50).2.1 ?_
          refine XS.iloadN X48.here hx rfl (hb hby d8_22) rfl ?_
          refine XS.bipush X48.here hx rfl (hb hby d8_23) ?_
          exact kt
         by_cases hc25_52 : c2 = (9 : Int32)
         ·skip
          have G53 : ∀ t, Steps p.tables e below (T48.setTop (mkF m 31 #[rv r0, iv 2, iv c2] [(.int (127 : Int32)), (.int c2)])) t → Steps p.tables e below (s₁.setTop (entryFrame m #[(.ref r0)] 3)) t := by
           intro t kt
           refine G51 _ ?_
           refine XS.icmpNo X48.here hx rfl (hb hby d8_25) rfl (teq hc25_52).2 ?_
           refine XS.iloadN X48.here hx rfl (hb hby d8_28) rfl ?_
           refine XS.bipush X48.here hx rfl (hb hby d8_29) ?_
           exact kt
          by_cases hc31_54 : c2 = (127 : Int32)
          ·skip
           obtain ⟨fs, hr, hrun, hended, hW, hsame⟩ := X48.leave (v := some (.int (0 : Int32))) (fun h => by rw [Bd.returns] at h; cases h)
           refine ⟨_, _, G53 _ ?_, hrun, hended, _, _, rfl, ?_, ⟨_, rfl⟩, hW, hsame.mono (by decide) (by decide)⟩
           ·skip
            refine XS.icmpYes X48.here hx rfl (pc0 := 31) (pc' := 41) rfl (hb hby d8_31) rfl (teq hc31_54).1 (by decide) (by decide) ?_
            refine XS.iconst X48.here hx rfl (hb hby d8_41) ?_
            exact retN X48 hx (t := .boolean) Bd.returns (by simp) (hb hby d8_42) hr
           ·show QrmFVL3 Z r0 c0 c1 c2 ta kb cst fv h0 n0 _ T48.heap _
            rw [eh48]
            exact ⟨by rw [own_fv, if_neg ((own_al c0).1 (by have q0 := hc19_5; have q1 := hc25_7; have q2 := hc31_9; have q3 := hc38_11; simp only [Int32.lt_iff_toInt_lt, ← Int32.toInt_inj, own_k9, own_k32, own_k127, own_k255] at q0 q1 q2 q3; omega)), own_fv, if_neg ((own_al c1).1 (by have q0 := hc19_16; have q1 := hc31_43; have q2 := hc38_45; simp only [Int32.lt_iff_toInt_lt, ← Int32.toInt_inj, own_k9, own_k32, own_k127, own_k255] at q0 q1 q2; omega)), own_fv, if_pos ((own_al c2).2 (by have q0 := hc19_50; have q1 := hc25_52; have q2 := hc31_54; simp only [Int32.lt_iff_toInt_lt, ← Int32.toInt_inj, own_k9, own_k32, own_k127, own_k255] at q0 q1 q2; omega))], N48, rfl⟩
          ·skip
           have G55 : ∀ t, Steps p.tables e below (T48.setTop (mkF m 38 #[rv r0, iv 2, iv c2] [(.int (255 : Int32)), (.int c2)])) t → Steps p.tables e below (s₁.setTop (entryFrame m #[(.ref r0)] 3)) t := by
            intro t kt
            refine G53 _ ?_
            refine XS.icmpNo X48.here hx rfl (hb hby d8_31) rfl (feq hc31_54).1 ?_
            refine XS.iloadN X48.here hx rfl (hb hby d8_34) rfl ?_
            refine XS.sipush X48.here hx rfl (hb hby d8_35) ?_
            exact kt
           by_cases hc38_56 : (255 : Int32) < c2
           ·skip
            obtain ⟨fs, hr, hrun, hended, hW, hsame⟩ := X48.leave (v := some (.int (0 : Int32))) (fun h => by rw [Bd.returns] at h; cases h)
            refine ⟨_, _, G55 _ ?_, hrun, hended, _, _, rfl, ?_, ⟨_, rfl⟩, hW, hsame.mono (by decide) (by decide)⟩
            ·skip
             refine XS.icmpNo X48.here hx rfl (hb hby d8_38) rfl (tlt hc38_56).2.2.2 ?_
             refine XS.iconst X48.here hx rfl (hb hby d8_41) ?_
             exact retN X48 hx (t := .boolean) Bd.returns (by simp) (hb hby d8_42) hr
            ·show QrmFVL3 Z r0 c0 c1 c2 ta kb cst fv h0 n0 _ T48.heap _
             rw [eh48]
             exact ⟨by rw [own_fv, if_neg ((own_al c0).1 (by have q0 := hc19_5; have q1 := hc25_7; have q2 := hc31_9; have q3 := hc38_11; simp only [Int32.lt_iff_toInt_lt, ← Int32.toInt_inj, own_k9, own_k32, own_k127, own_k255] at q0 q1 q2 q3; omega)), own_fv, if_neg ((own_al c1).1 (by have q0 := hc19_16; have q1 := hc31_43; have q2 := hc38_45; simp only [Int32.lt_iff_toInt_lt, ← Int32.toInt_inj, own_k9, own_k32, own_k127, own_k255] at q0 q1 q2; omega)), own_fv, if_pos ((own_al c2).2 (by have q0 := hc19_50; have q1 := hc25_52; have q2 := hc31_54; have q3 := hc38_56; simp only [Int32.lt_iff_toInt_lt, ← Int32.toInt_inj, own_k9, own_k32, own_k127, own_k255] at q0 q1 q2 q3; omega))], N48, rfl⟩
           ·skip
            obtain ⟨cq57, kq57, q57a, q57b, q57c⟩ := isOf hZ eh48 E0
            obtain ⟨_, _, ⟨T57, L57, k57, n57⟩, -, X57, ⟨Lc57, hQ57, l57, y57, z57⟩, st57⟩ := X48.virtualBack hx (y := (⟨"java/lang/String", "length", "()I"⟩ : MethodName)) (z := (⟨"java/lang/String", "length", "()I"⟩ : MethodName)) hown (mvT hZ (hq hw 38 rfl)) (mvT hZ (hq hw 39 rfl)) (notFace_of_selects (args := #[]) (mvT hZ (hq hw 41 rfl))) (mvT hZ (hq hw 41 rfl)) (mvT hZ (hq hw 40 rfl)) (by decide) (backOf (W := 1) (rm9 l Z a0 hw [] r0 (0 : Int32) ta kb (3 : Int32) [(.int (nar .byte (c0.toInt8.toInt32))), (.int (nar .byte (c1.toInt8.toInt32))), (.int (nar .byte (c2.toInt8.toInt32)))] (3 : Int32) cst fv h0 n0 Z0 E0 Fc Fv V0 O0 (by decide) SS) hZ (hq hw 42 rfl) (hq hw 3 rfl) (by decide) (by decide)) q57a q57c (g := (mkF m 4 #[rv r0, iv 3, iv c2] [(.ref r0), (.int (3 : Int32))])) rfl (by rw [hml]; rfl) (Steps.refl _) (argsL := []) (rest := [(.int (3 : Int32))]) (lenOf pd_14 rfl) rfl (by show 2 * 0 + _ ≤ _; exact Nat.le_of_eq rfl) (hb hby d8_4) (fun _ _ => ⟨rfl, eh48, (by decide : 0 + 0 ≤ _), (by decide : 0 + 0 ≤ _)⟩)
            dsimp only [Pt.U, Pt.locs, Pt.cells, Pt.slots] at X57 l57 y57 z57 st57 hQ57
            subst l57 y57 z57
            obtain ⟨rfl, N57q, eh57⟩ := hQ57
            have N57 := Fr.app N48 N57q
            have G58 : ∀ t, Steps p.tables e below (T57.setTop (mkF m 7 #[rv r0, iv 3, iv c2] [(.int (3 : Int32)), (.int (3 : Int32))])) t → Steps p.tables e below (s₁.setTop (entryFrame m #[(.ref r0)] 3)) t := by
             intro t kt
             refine G55 _ ?_
             refine XS.icmpYes X48.here hx rfl (pc0 := 38) (pc' := 43) rfl (hb hby d8_38) rfl (flt hc38_56).2.2.2 (by decide) (by decide) ?_
             refine XS.iinc X48.here hx rfl (hb hby d8_43) rfl (l' := #[rv r0, iv 3, iv c2]) rfl ?_
             refine XS.goto X48.here hx rfl (pc0 := 46) (pc' := 2) rfl (hb hby d8_46) (by decide) (by decide) ?_
             refine XS.iloadN X48.here hx rfl (hb hby d8_2) rfl ?_
             refine XS.aloadN X48.here hx rfl (hb hby d8_3) rfl rfl ?_
             refine st57.trans ?_
             exact kt
            obtain ⟨fs, hr, hrun, hended, hW, hsame⟩ := X57.leave (v := some (.int (1 : Int32))) (fun h => by rw [Bd.returns] at h; cases h)
            refine ⟨_, _, G58 _ ?_, hrun, hended, _, _, rfl, ?_, ⟨_, rfl⟩, hW, hsame.mono (by decide) (by decide)⟩
            ·skip
             refine XS.icmpYes X57.here hx rfl (pc0 := 7) (pc' := 49) rfl (hb hby d8_7) rfl (flt (by decide)).2.1 (by decide) (by decide) ?_
             refine XS.iconst X57.here hx rfl (hb hby d8_49) ?_
             exact retN X57 hx (t := .boolean) Bd.returns (by simp) (hb hby d8_50) hr
            ·show QrmFVL3 Z r0 c0 c1 c2 ta kb cst fv h0 n0 _ T57.heap _
             rw [eh57]
             exact ⟨by rw [own_fv, if_neg ((own_al c0).1 (by have q0 := hc19_5; have q1 := hc25_7; have q2 := hc31_9; have q3 := hc38_11; simp only [Int32.lt_iff_toInt_lt, ← Int32.toInt_inj, own_k9, own_k32, own_k127, own_k255] at q0 q1 q2 q3; omega)), own_fv, if_neg ((own_al c1).1 (by have q0 := hc19_16; have q1 := hc31_43; have q2 := hc38_45; simp only [Int32.lt_iff_toInt_lt, ← Int32.toInt_inj, own_k9, own_k32, own_k127, own_k255] at q0 q1 q2; omega)), own_fv, if_neg ((own_al c2).1 (by have q0 := hc19_50; have q1 := hc25_52; have q2 := hc31_54; have q3 := hc38_56; simp only [Int32.lt_iff_toInt_lt, ← Int32.toInt_inj, own_k9, own_k32, own_k127, own_k255] at q0 q1 q2 q3; omega)), own_fv], N57, rfl⟩
         ·skip
          obtain ⟨fs, hr, hrun, hended, hW, hsame⟩ := X48.leave (v := some (.int (0 : Int32))) (fun h => by rw [Bd.returns] at h; cases h)
          refine ⟨_, _, G51 _ ?_, hrun, hended, _, _, rfl, ?_, ⟨_, rfl⟩, hW, hsame.mono (by decide) (by decide)⟩
          ·skip
           refine XS.icmpYes X48.here hx rfl (pc0 := 25) (pc' := 41) rfl (hb hby d8_25) rfl (feq hc25_52).2 (by decide) (by decide) ?_
           refine XS.iconst X48.here hx rfl (hb hby d8_41) ?_
           exact retN X48 hx (t := .boolean) Bd.returns (by simp) (hb hby d8_42) hr
          ·show QrmFVL3 Z r0 c0 c1 c2 ta kb cst fv h0 n0 _ T48.heap _
           rw [eh48]
           exact ⟨by rw [own_fv, if_neg ((own_al c0).1 (by have q0 := hc19_5; have q1 := hc25_7; have q2 := hc31_9; have q3 := hc38_11; simp only [Int32.lt_iff_toInt_lt, ← Int32.toInt_inj, own_k9, own_k32, own_k127, own_k255] at q0 q1 q2 q3; omega)), own_fv, if_neg ((own_al c1).1 (by have q0 := hc19_16; have q1 := hc31_43; have q2 := hc38_45; simp only [Int32.lt_iff_toInt_lt, ← Int32.toInt_inj, own_k9, own_k32, own_k127, own_k255] at q0 q1 q2; omega)), own_fv, if_pos ((own_al c2).2 (by have q0 := hc19_50; have q1 := hc25_52; simp only [Int32.lt_iff_toInt_lt, ← Int32.toInt_inj, own_k9, own_k32, own_k127, own_k255] at q0 q1; omega))], N48, rfl⟩
        ·skip
         have G59 : ∀ t, Steps p.tables e below (T48.setTop (mkF m 31 #[rv r0, iv 2, iv c2] [(.int (127 : Int32)), (.int c2)])) t → Steps p.tables e below (s₁.setTop (entryFrame m #[(.ref r0)] 3)) t := by
          intro t kt
          refine G49 _ ?_
          refine XS.icmpYes X48.here hx rfl (pc0 := 19) (pc' := 28) rfl (hb hby d8_19) rfl (flt hc19_50).2.1 (by decide) (by decide) ?_
          refine XS.iloadN X48.here hx rfl (hb hby d8_28) rfl ?_
          refine XS.bipush X48.here hx rfl (hb hby d8_29) ?_
          exact kt
         by_cases hc31_60 : c2 = (127 : Int32)
         ·skip
          obtain ⟨fs, hr, hrun, hended, hW, hsame⟩ := X48.leave (v := some (.int (0 : Int32))) (fun h => by rw [Bd.returns] at h; cases h)
          refine ⟨_, _, G59 _ ?_, hrun, hended, _, _, rfl, ?_, ⟨_, rfl⟩, hW, hsame.mono (by decide) (by decide)⟩
          ·skip
           refine XS.icmpYes X48.here hx rfl (pc0 := 31) (pc' := 41) rfl (hb hby d8_31) rfl (teq hc31_60).1 (by decide) (by decide) ?_
           refine XS.iconst X48.here hx rfl (hb hby d8_41) ?_
           exact retN X48 hx (t := .boolean) Bd.returns (by simp) (hb hby d8_42) hr
          ·show QrmFVL3 Z r0 c0 c1 c2 ta kb cst fv h0 n0 _ T48.heap _
           rw [eh48]
           exact ⟨by rw [own_fv, if_neg ((own_al c0).1 (by have q0 := hc19_5; have q1 := hc25_7; have q2 := hc31_9; have q3 := hc38_11; simp only [Int32.lt_iff_toInt_lt, ← Int32.toInt_inj, own_k9, own_k32, own_k127, own_k255] at q0 q1 q2 q3; omega)), own_fv, if_neg ((own_al c1).1 (by have q0 := hc19_16; have q1 := hc31_43; have q2 := hc38_45; simp only [Int32.lt_iff_toInt_lt, ← Int32.toInt_inj, own_k9, own_k32, own_k127, own_k255] at q0 q1 q2; omega)), own_fv, if_pos ((own_al c2).2 (by have q0 := hc19_50; have q1 := hc31_60; simp only [Int32.lt_iff_toInt_lt, ← Int32.toInt_inj, own_k9, own_k32, own_k127, own_k255] at q0 q1; omega))], N48, rfl⟩
         ·skip
          have G61 : ∀ t, Steps p.tables e below (T48.setTop (mkF m 38 #[rv r0, iv 2, iv c2] [(.int (255 : Int32)), (.int c2)])) t → Steps p.tables e below (s₁.setTop (entryFrame m #[(.ref r0)] 3)) t := by
           intro t kt
           refine G59 _ ?_
           refine XS.icmpNo X48.here hx rfl (hb hby d8_31) rfl (feq hc31_60).1 ?_
           refine XS.iloadN X48.here hx rfl (hb hby d8_34) rfl ?_
           refine XS.sipush X48.here hx rfl (hb hby d8_35) ?_
           exact kt
          by_cases hc38_62 : (255 : Int32) < c2
          ·skip
           obtain ⟨fs, hr, hrun, hended, hW, hsame⟩ := X48.leave (v := some (.int (0 : Int32))) (fun h => by rw [Bd.returns] at h; cases h)
           refine ⟨_, _, G61 _ ?_, hrun, hended, _, _, rfl, ?_, ⟨_, rfl⟩, hW, hsame.mono (by decide) (by decide)⟩
           ·skip
            refine XS.icmpNo X48.here hx rfl (hb hby d8_38) rfl (tlt hc38_62).2.2.2 ?_
            refine XS.iconst X48.here hx rfl (hb hby d8_41) ?_
            exact retN X48 hx (t := .boolean) Bd.returns (by simp) (hb hby d8_42) hr
           ·show QrmFVL3 Z r0 c0 c1 c2 ta kb cst fv h0 n0 _ T48.heap _
            rw [eh48]
            exact ⟨by rw [own_fv, if_neg ((own_al c0).1 (by have q0 := hc19_5; have q1 := hc25_7; have q2 := hc31_9; have q3 := hc38_11; simp only [Int32.lt_iff_toInt_lt, ← Int32.toInt_inj, own_k9, own_k32, own_k127, own_k255] at q0 q1 q2 q3; omega)), own_fv, if_neg ((own_al c1).1 (by have q0 := hc19_16; have q1 := hc31_43; have q2 := hc38_45; simp only [Int32.lt_iff_toInt_lt, ← Int32.toInt_inj, own_k9, own_k32, own_k127, own_k255] at q0 q1 q2; omega)), own_fv, if_pos ((own_al c2).2 (by have q0 := hc19_50; have q1 := hc31_60; have q2 := hc38_62; simp only [Int32.lt_iff_toInt_lt, ← Int32.toInt_inj, own_k9, own_k32, own_k127, own_k255] at q0 q1 q2; omega))], N48, rfl⟩
          ·skip
           obtain ⟨cq63, kq63, q63a, q63b, q63c⟩ := isOf hZ eh48 E0
           obtain ⟨_, _, ⟨T63, L63, k63, n63⟩, -, X63, ⟨Lc63, hQ63, l63, y63, z63⟩, st63⟩ := X48.virtualBack hx (y := (⟨"java/lang/String", "length", "()I"⟩ : MethodName)) (z := (⟨"java/lang/String", "length", "()I"⟩ : MethodName)) hown (mvT hZ (hq hw 38 rfl)) (mvT hZ (hq hw 39 rfl)) (notFace_of_selects (args := #[]) (mvT hZ (hq hw 41 rfl))) (mvT hZ (hq hw 41 rfl)) (mvT hZ (hq hw 40 rfl)) (by decide) (backOf (W := 1) (rm9 l Z a0 hw [] r0 (0 : Int32) ta kb (3 : Int32) [(.int (nar .byte (c0.toInt8.toInt32))), (.int (nar .byte (c1.toInt8.toInt32))), (.int (nar .byte (c2.toInt8.toInt32)))] (3 : Int32) cst fv h0 n0 Z0 E0 Fc Fv V0 O0 (by decide) SS) hZ (hq hw 42 rfl) (hq hw 3 rfl) (by decide) (by decide)) q63a q63c (g := (mkF m 4 #[rv r0, iv 3, iv c2] [(.ref r0), (.int (3 : Int32))])) rfl (by rw [hml]; rfl) (Steps.refl _) (argsL := []) (rest := [(.int (3 : Int32))]) (lenOf pd_14 rfl) rfl (by show 2 * 0 + _ ≤ _; exact Nat.le_of_eq rfl) (hb hby d8_4) (fun _ _ => ⟨rfl, eh48, (by decide : 0 + 0 ≤ _), (by decide : 0 + 0 ≤ _)⟩)
           dsimp only [Pt.U, Pt.locs, Pt.cells, Pt.slots] at X63 l63 y63 z63 st63 hQ63
           subst l63 y63 z63
           obtain ⟨rfl, N63q, eh63⟩ := hQ63
           have N63 := Fr.app N48 N63q
           have G64 : ∀ t, Steps p.tables e below (T63.setTop (mkF m 7 #[rv r0, iv 3, iv c2] [(.int (3 : Int32)), (.int (3 : Int32))])) t → Steps p.tables e below (s₁.setTop (entryFrame m #[(.ref r0)] 3)) t := by
            intro t kt
            refine G61 _ ?_
            refine XS.icmpYes X48.here hx rfl (pc0 := 38) (pc' := 43) rfl (hb hby d8_38) rfl (flt hc38_62).2.2.2 (by decide) (by decide) ?_
            refine XS.iinc X48.here hx rfl (hb hby d8_43) rfl (l' := #[rv r0, iv 3, iv c2]) rfl ?_
            refine XS.goto X48.here hx rfl (pc0 := 46) (pc' := 2) rfl (hb hby d8_46) (by decide) (by decide) ?_
            refine XS.iloadN X48.here hx rfl (hb hby d8_2) rfl ?_
            refine XS.aloadN X48.here hx rfl (hb hby d8_3) rfl rfl ?_
            refine st63.trans ?_
            exact kt
           obtain ⟨fs, hr, hrun, hended, hW, hsame⟩ := X63.leave (v := some (.int (1 : Int32))) (fun h => by rw [Bd.returns] at h; cases h)
           refine ⟨_, _, G64 _ ?_, hrun, hended, _, _, rfl, ?_, ⟨_, rfl⟩, hW, hsame.mono (by decide) (by decide)⟩
           ·skip
            refine XS.icmpYes X63.here hx rfl (pc0 := 7) (pc' := 49) rfl (hb hby d8_7) rfl (flt (by decide)).2.1 (by decide) (by decide) ?_
            refine XS.iconst X63.here hx rfl (hb hby d8_49) ?_
            exact retN X63 hx (t := .boolean) Bd.returns (by simp) (hb hby d8_50) hr
           ·show QrmFVL3 Z r0 c0 c1 c2 ta kb cst fv h0 n0 _ T63.heap _
            rw [eh63]
            exact ⟨by rw [own_fv, if_neg ((own_al c0).1 (by have q0 := hc19_5; have q1 := hc25_7; have q2 := hc31_9; have q3 := hc38_11; simp only [Int32.lt_iff_toInt_lt, ← Int32.toInt_inj, own_k9, own_k32, own_k127, own_k255] at q0 q1 q2 q3; omega)), own_fv, if_neg ((own_al c1).1 (by have q0 := hc19_16; have q1 := hc31_43; have q2 := hc38_45; simp only [Int32.lt_iff_toInt_lt, ← Int32.toInt_inj, own_k9, own_k32, own_k127, own_k255] at q0 q1 q2; omega)), own_fv, if_neg ((own_al c2).1 (by have q0 := hc19_50; have q1 := hc31_60; have q2 := hc38_62; simp only [Int32.lt_iff_toInt_lt, ← Int32.toInt_inj, own_k9, own_k32, own_k127, own_k255] at q0 q1 q2; omega)), own_fv], N63, rfl⟩
  ·skip
   obtain ⟨fs, hr, hrun, hended, hW, hsame⟩ := X3.leave (v := some (.int (0 : Int32))) (fun h => by rw [Bd.returns] at h; cases h)
   refine ⟨_, _, G6 _ ?_, hrun, hended, _, _, rfl, ?_, ⟨_, rfl⟩, hW, hsame.mono (by decide) (by decide)⟩
   ·skip
    refine XS.icmpYes X3.here hx rfl (pc0 := 25) (pc' := 41) rfl (hb hby d8_25) rfl (feq hc25_7).2 (by decide) (by decide) ?_
    refine XS.iconst X3.here hx rfl (hb hby d8_41) ?_
    exact retN X3 hx (t := .boolean) Bd.returns (by simp) (hb hby d8_42) hr
   ·show QrmFVL3 Z r0 c0 c1 c2 ta kb cst fv h0 n0 _ T3.heap _
    rw [eh3]
    exact ⟨by rw [own_fv, if_pos ((own_al c0).2 (by have q0 := hc19_5; have q1 := hc25_7; simp only [Int32.lt_iff_toInt_lt, ← Int32.toInt_inj, own_k9, own_k32, own_k127, own_k255] at q0 q1; omega))], N3, rfl⟩
 ·skip
  have G65 : ∀ t, Steps p.tables e below (T3.setTop (mkF m 31 #[rv r0, iv 0, iv c0] [(.int (127 : Int32)), (.int c0)])) t → Steps p.tables e below (s₁.setTop (entryFrame m #[(.ref r0)] 3)) t := by
   intro t kt
   refine G4 _ ?_
   refine XS.icmpYes X3.here hx rfl (pc0 := 19) (pc' := 28) rfl (hb hby d8_19) rfl (flt hc19_5).2.1 (by decide) (by decide) ?_
   refine XS.iloadN X3.here hx rfl (hb hby d8_28) rfl ?_
   refine XS.bipush X3.here hx rfl (hb hby d8_29) ?_
   exact kt
  by_cases hc31_66 : c0 = (127 : Int32)
  ·skip
   obtain ⟨fs, hr, hrun, hended, hW, hsame⟩ := X3.leave (v := some (.int (0 : Int32))) (fun h => by rw [Bd.returns] at h; cases h)
   refine ⟨_, _, G65 _ ?_, hrun, hended, _, _, rfl, ?_, ⟨_, rfl⟩, hW, hsame.mono (by decide) (by decide)⟩
   ·skip
    refine XS.icmpYes X3.here hx rfl (pc0 := 31) (pc' := 41) rfl (hb hby d8_31) rfl (teq hc31_66).1 (by decide) (by decide) ?_
    refine XS.iconst X3.here hx rfl (hb hby d8_41) ?_
    exact retN X3 hx (t := .boolean) Bd.returns (by simp) (hb hby d8_42) hr
   ·show QrmFVL3 Z r0 c0 c1 c2 ta kb cst fv h0 n0 _ T3.heap _
    rw [eh3]
    exact ⟨by rw [own_fv, if_pos ((own_al c0).2 (by have q0 := hc19_5; have q1 := hc31_66; simp only [Int32.lt_iff_toInt_lt, ← Int32.toInt_inj, own_k9, own_k32, own_k127, own_k255] at q0 q1; omega))], N3, rfl⟩
  ·skip
   have G67 : ∀ t, Steps p.tables e below (T3.setTop (mkF m 38 #[rv r0, iv 0, iv c0] [(.int (255 : Int32)), (.int c0)])) t → Steps p.tables e below (s₁.setTop (entryFrame m #[(.ref r0)] 3)) t := by
    intro t kt
    refine G65 _ ?_
    refine XS.icmpNo X3.here hx rfl (hb hby d8_31) rfl (feq hc31_66).1 ?_
    refine XS.iloadN X3.here hx rfl (hb hby d8_34) rfl ?_
    refine XS.sipush X3.here hx rfl (hb hby d8_35) ?_
    exact kt
   by_cases hc38_68 : (255 : Int32) < c0
   ·skip
    obtain ⟨fs, hr, hrun, hended, hW, hsame⟩ := X3.leave (v := some (.int (0 : Int32))) (fun h => by rw [Bd.returns] at h; cases h)
    refine ⟨_, _, G67 _ ?_, hrun, hended, _, _, rfl, ?_, ⟨_, rfl⟩, hW, hsame.mono (by decide) (by decide)⟩
    ·skip
     refine XS.icmpNo X3.here hx rfl (hb hby d8_38) rfl (tlt hc38_68).2.2.2 ?_
     refine XS.iconst X3.here hx rfl (hb hby d8_41) ?_
     exact retN X3 hx (t := .boolean) Bd.returns (by simp) (hb hby d8_42) hr
    ·show QrmFVL3 Z r0 c0 c1 c2 ta kb cst fv h0 n0 _ T3.heap _
     rw [eh3]
     exact ⟨by rw [own_fv, if_pos ((own_al c0).2 (by have q0 := hc19_5; have q1 := hc31_66; have q2 := hc38_68; simp only [Int32.lt_iff_toInt_lt, ← Int32.toInt_inj, own_k9, own_k32, own_k127, own_k255] at q0 q1 q2; omega))], N3, rfl⟩
   ·skip
    obtain ⟨cq69, kq69, q69a, q69b, q69c⟩ := isOf hZ eh3 E0
    obtain ⟨_, _, ⟨T69, L69, k69, n69⟩, -, X69, ⟨Lc69, hQ69, l69, y69, z69⟩, st69⟩ := X3.virtualBack hx (y := (⟨"java/lang/String", "length", "()I"⟩ : MethodName)) (z := (⟨"java/lang/String", "length", "()I"⟩ : MethodName)) hown (mvT hZ (hq hw 38 rfl)) (mvT hZ (hq hw 39 rfl)) (notFace_of_selects (args := #[]) (mvT hZ (hq hw 41 rfl))) (mvT hZ (hq hw 41 rfl)) (mvT hZ (hq hw 40 rfl)) (by decide) (backOf (W := 1) (rm9 l Z a0 hw [] r0 (0 : Int32) ta kb (3 : Int32) [(.int (nar .byte (c0.toInt8.toInt32))), (.int (nar .byte (c1.toInt8.toInt32))), (.int (nar .byte (c2.toInt8.toInt32)))] (3 : Int32) cst fv h0 n0 Z0 E0 Fc Fv V0 O0 (by decide) SS) hZ (hq hw 42 rfl) (hq hw 3 rfl) (by decide) (by decide)) q69a q69c (g := (mkF m 4 #[rv r0, iv 1, iv c0] [(.ref r0), (.int (1 : Int32))])) rfl (by rw [hml]; rfl) (Steps.refl _) (argsL := []) (rest := [(.int (1 : Int32))]) (lenOf pd_14 rfl) rfl (by show 2 * 0 + _ ≤ _; exact Nat.le_of_eq rfl) (hb hby d8_4) (fun _ _ => ⟨rfl, eh3, (by decide : 0 + 0 ≤ _), (by decide : 0 + 0 ≤ _)⟩)
    dsimp only [Pt.U, Pt.locs, Pt.cells, Pt.slots] at X69 l69 y69 z69 st69 hQ69
    subst l69 y69 z69
    obtain ⟨rfl, N69q, eh69⟩ := hQ69
    have N69 := Fr.app N3 N69q
    have G70 : ∀ t, Steps p.tables e below (T69.setTop (mkF m 7 #[rv r0, iv 1, iv c0] [(.int (3 : Int32)), (.int (1 : Int32))])) t → Steps p.tables e below (s₁.setTop (entryFrame m #[(.ref r0)] 3)) t := by
     intro t kt
     refine G67 _ ?_
     refine XS.icmpYes X3.here hx rfl (pc0 := 38) (pc' := 43) rfl (hb hby d8_38) rfl (flt hc38_68).2.2.2 (by decide) (by decide) ?_
     refine XS.iinc X3.here hx rfl (hb hby d8_43) rfl (l' := #[rv r0, iv 1, iv c0]) rfl ?_
     refine XS.goto X3.here hx rfl (pc0 := 46) (pc' := 2) rfl (hb hby d8_46) (by decide) (by decide) ?_
     refine XS.iloadN X3.here hx rfl (hb hby d8_2) rfl ?_
     refine XS.aloadN X3.here hx rfl (hb hby d8_3) rfl rfl ?_
     show Steps p.tables e below (T3.setTop (mkF m 4 #[rv r0, iv 1, iv c0] [(.ref r0), (.int (1 : Int32))])) _
     refine st69.trans ?_
     exact kt
    obtain ⟨cq71, kq71, q71a, q71b, q71c⟩ := isOf hZ eh69 E0
    obtain ⟨_, _, ⟨T71, L71, k71, n71⟩, -, X71, ⟨Lc71, hQ71, l71, y71, z71⟩, st71⟩ := X69.virtualBack hx (y := (⟨"java/lang/String", "charAt", "(I)C"⟩ : MethodName)) (z := (⟨"java/lang/String", "charAt", "(I)C"⟩ : MethodName)) hown (mvT hZ (hq hw 48 rfl)) (mvT hZ (hq hw 49 rfl)) (notFace_of_selects (args := #[]) (mvT hZ (hq hw 51 rfl))) (mvT hZ (hq hw 51 rfl)) (mvT hZ (hq hw 50 rfl)) (by decide) (backOf (W := 0) (rmChL l Z a0 hw [] r0 (1 : Int32) ta kb (3 : Int32) [(.int (nar .byte (c0.toInt8.toInt32))), (.int (nar .byte (c1.toInt8.toInt32))), (.int (nar .byte (c2.toInt8.toInt32)))] (nar .byte (c1.toInt8.toInt32)) c1 cst fv h0 n0 Z0 E0 Fc Fv V0 O0 (by decide) (by decide) rfl (own_lat c1 hb1 hl1) SS) hZ (hq hw 52 rfl) (hq hw 3 rfl) (by decide) (by decide)) q71a q71c (g := (mkF m 12 #[rv r0, iv 1, iv c0] [(.int (1 : Int32)), (.ref r0)])) rfl (by rw [hml]; rfl) (Steps.refl _) (argsL := [(.int (1 : Int32))]) (rest := []) (lenOf pd_15 rfl) rfl (by show 2 * 0 + _ ≤ _; exact Nat.le_of_eq rfl) (hb hby d8_12) (fun _ _ => ⟨rfl, eh69, (by decide : 0 + 0 ≤ _), (by decide : 0 + 0 ≤ _)⟩)
    dsimp only [Pt.U, Pt.locs, Pt.cells, Pt.slots] at X71 l71 y71 z71 st71 hQ71
    subst l71 y71 z71
    obtain ⟨rfl, N71q, eh71⟩ := hQ71
    have N71 := Fr.app N69 N71q
    have G72 : ∀ t, Steps p.tables e below (T71.setTop (mkF m 19 #[rv r0, iv 1, iv c1] [(.int (32 : Int32)), (.int c1)])) t → Steps p.tables e below (s₁.setTop (entryFrame m #[(.ref r0)] 3)) t := by
     intro t kt
     refine G70 _ ?_
     refine XS.icmpNo X69.here hx rfl (hb hby d8_7) rfl (tlt (by decide)).2.1 ?_
     refine XS.aloadN X69.here hx rfl (hb hby d8_10) rfl rfl ?_
     refine XS.iloadN X69.here hx rfl (hb hby d8_11) rfl ?_
     refine st71.trans ?_
     refine XS.istoreN X71.here hx rfl (hb hby d8_15) rfl (l' := #[rv r0, iv 1, iv c1]) rfl ?_
     refine XS.iloadN X71.here hx rfl (hb hby d8_16) rfl ?_
     refine XS.bipush X71.here hx rfl (hb hby d8_17) ?_
     exact kt
    by_cases hc19_73 : c1 < (32 : Int32)
    ·skip
     have G74 : ∀ t, Steps p.tables e below (T71.setTop (mkF m 25 #[rv r0, iv 1, iv c1] [(.int (9 : Int32)), (.int c1)])) t → Steps p.tables e below (s₁.setTop (entryFrame m #[(.ref r0)] 3)) t := by
      intro t kt
      refine G72 _ ?_
      refine XS.icmpNo X71.here hx rfl (hb hby d8_19) rfl (tlt hc19_73).2.1 ?_
      refine XS.iloadN X71.here hx rfl (hb hby d8_22) rfl ?_
      refine XS.bipush X71.here hx rfl (hb hby d8_23) ?_
      exact kt
     by_cases hc25_75 : c1 = (9 : Int32)
     ·skip
      have G76 : ∀ t, Steps p.tables e below (T71.setTop (mkF m 31 #[rv r0, iv 1, iv c1] [(.int (127 : Int32)), (.int c1)])) t → Steps p.tables e below (s₁.setTop (entryFrame m #[(.ref r0)] 3)) t := by
       intro t kt
       refine G74 _ ?_
       refine XS.icmpNo X71.here hx rfl (hb hby d8_25) rfl (teq hc25_75).2 ?_
       refine XS.iloadN X71.here hx rfl (hb hby d8_28) rfl ?_
       refine XS.bipush X71.here hx rfl (hb hby d8_29) ?_
       exact kt
      by_cases hc31_77 : c1 = (127 : Int32)
      ·skip
       obtain ⟨fs, hr, hrun, hended, hW, hsame⟩ := X71.leave (v := some (.int (0 : Int32))) (fun h => by rw [Bd.returns] at h; cases h)
       refine ⟨_, _, G76 _ ?_, hrun, hended, _, _, rfl, ?_, ⟨_, rfl⟩, hW, hsame.mono (by decide) (by decide)⟩
       ·skip
        refine XS.icmpYes X71.here hx rfl (pc0 := 31) (pc' := 41) rfl (hb hby d8_31) rfl (teq hc31_77).1 (by decide) (by decide) ?_
        refine XS.iconst X71.here hx rfl (hb hby d8_41) ?_
        exact retN X71 hx (t := .boolean) Bd.returns (by simp) (hb hby d8_42) hr
       ·show QrmFVL3 Z r0 c0 c1 c2 ta kb cst fv h0 n0 _ T71.heap _
        rw [eh71]
        exact ⟨by rw [own_fv, if_neg ((own_al c0).1 (by have q0 := hc19_5; have q1 := hc31_66; have q2 := hc38_68; simp only [Int32.lt_iff_toInt_lt, ← Int32.toInt_inj, own_k9, own_k32, own_k127, own_k255] at q0 q1 q2; omega)), own_fv, if_pos ((own_al c1).2 (by have q0 := hc19_73; have q1 := hc25_75; have q2 := hc31_77; simp only [Int32.lt_iff_toInt_lt, ← Int32.toInt_inj, own_k9, own_k32, own_k127, own_k255] at q0 q1 q2; omega))], N71, rfl⟩
      ·skip
       have G78 : ∀ t, Steps p.tables e below (T71.setTop (mkF m 38 #[rv r0, iv 1, iv c1] [(.int (255 : Int32)), (.int c1)])) t → Steps p.tables e below (s₁.setTop (entryFrame m #[(.ref r0)] 3)) t := by
        intro t kt
        refine G76 _ ?_
        refine XS.icmpNo X71.here hx rfl (hb hby d8_31) rfl (feq hc31_77).1 ?_
        refine XS.iloadN X71.here hx rfl (hb hby d8_34) rfl ?_
        refine XS.sipush X71.here hx rfl (hb hby d8_35) ?_
        exact kt
       by_cases hc38_79 : (255 : Int32) < c1
       ·skip
        obtain ⟨fs, hr, hrun, hended, hW, hsame⟩ := X71.leave (v := some (.int (0 : Int32))) (fun h => by rw [Bd.returns] at h; cases h)
        refine ⟨_, _, G78 _ ?_, hrun, hended, _, _, rfl, ?_, ⟨_, rfl⟩, hW, hsame.mono (by decide) (by decide)⟩
        ·skip
         refine XS.icmpNo X71.here hx rfl (hb hby d8_38) rfl (tlt hc38_79).2.2.2 ?_
         refine XS.iconst X71.here hx rfl (hb hby d8_41) ?_
         exact retN X71 hx (t := .boolean) Bd.returns (by simp) (hb hby d8_42) hr
        ·show QrmFVL3 Z r0 c0 c1 c2 ta kb cst fv h0 n0 _ T71.heap _
         rw [eh71]
         exact ⟨by rw [own_fv, if_neg ((own_al c0).1 (by have q0 := hc19_5; have q1 := hc31_66; have q2 := hc38_68; simp only [Int32.lt_iff_toInt_lt, ← Int32.toInt_inj, own_k9, own_k32, own_k127, own_k255] at q0 q1 q2; omega)), own_fv, if_pos ((own_al c1).2 (by have q0 := hc19_73; have q1 := hc25_75; have q2 := hc31_77; have q3 := hc38_79; simp only [Int32.lt_iff_toInt_lt, ← Int32.toInt_inj, own_k9, own_k32, own_k127, own_k255] at q0 q1 q2 q3; omega))], N71, rfl⟩
       ·skip
        obtain ⟨cq80, kq80, q80a, q80b, q80c⟩ := isOf hZ eh71 E0
        obtain ⟨_, _, ⟨T80, L80, k80, n80⟩, -, X80, ⟨Lc80, hQ80, l80, y80, z80⟩, st80⟩ := X71.virtualBack hx (y := (⟨"java/lang/String", "length", "()I"⟩ : MethodName)) (z := (⟨"java/lang/String", "length", "()I"⟩ : MethodName)) hown (mvT hZ (hq hw 38 rfl)) (mvT hZ (hq hw 39 rfl)) (notFace_of_selects (args := #[]) (mvT hZ (hq hw 41 rfl))) (mvT hZ (hq hw 41 rfl)) (mvT hZ (hq hw 40 rfl)) (by decide) (backOf (W := 1) (rm9 l Z a0 hw [] r0 (0 : Int32) ta kb (3 : Int32) [(.int (nar .byte (c0.toInt8.toInt32))), (.int (nar .byte (c1.toInt8.toInt32))), (.int (nar .byte (c2.toInt8.toInt32)))] (3 : Int32) cst fv h0 n0 Z0 E0 Fc Fv V0 O0 (by decide) SS) hZ (hq hw 42 rfl) (hq hw 3 rfl) (by decide) (by decide)) q80a q80c (g := (mkF m 4 #[rv r0, iv 2, iv c1] [(.ref r0), (.int (2 : Int32))])) rfl (by rw [hml]; rfl) (Steps.refl _) (argsL := []) (rest := [(.int (2 : Int32))]) (lenOf pd_14 rfl) rfl (by show 2 * 0 + _ ≤ _; exact Nat.le_of_eq rfl) (hb hby d8_4) (fun _ _ => ⟨rfl, eh71, (by decide : 0 + 0 ≤ _), (by decide : 0 + 0 ≤ _)⟩)
        dsimp only [Pt.U, Pt.locs, Pt.cells, Pt.slots] at X80 l80 y80 z80 st80 hQ80
        subst l80 y80 z80
        obtain ⟨rfl, N80q, eh80⟩ := hQ80
        have N80 := Fr.app N71 N80q
        have G81 : ∀ t, Steps p.tables e below (T80.setTop (mkF m 7 #[rv r0, iv 2, iv c1] [(.int (3 : Int32)), (.int (2 : Int32))])) t → Steps p.tables e below (s₁.setTop (entryFrame m #[(.ref r0)] 3)) t := by
         intro t kt
         refine G78 _ ?_
         refine XS.icmpYes X71.here hx rfl (pc0 := 38) (pc' := 43) rfl (hb hby d8_38) rfl (flt hc38_79).2.2.2 (by decide) (by decide) ?_
         refine XS.iinc X71.here hx rfl (hb hby d8_43) rfl (l' := #[rv r0, iv 2, iv c1]) rfl ?_
         refine XS.goto X71.here hx rfl (pc0 := 46) (pc' := 2) rfl (hb hby d8_46) (by decide) (by decide) ?_
         refine XS.iloadN X71.here hx rfl (hb hby d8_2) rfl ?_
         refine XS.aloadN X71.here hx rfl (hb hby d8_3) rfl rfl ?_
         refine st80.trans ?_
         exact kt
        obtain ⟨cq82, kq82, q82a, q82b, q82c⟩ := isOf hZ eh80 E0
        obtain ⟨_, _, ⟨T82, L82, k82, n82⟩, -, X82, ⟨Lc82, hQ82, l82, y82, z82⟩, st82⟩ := X80.virtualBack hx (y := (⟨"java/lang/String", "charAt", "(I)C"⟩ : MethodName)) (z := (⟨"java/lang/String", "charAt", "(I)C"⟩ : MethodName)) hown (mvT hZ (hq hw 48 rfl)) (mvT hZ (hq hw 49 rfl)) (notFace_of_selects (args := #[]) (mvT hZ (hq hw 51 rfl))) (mvT hZ (hq hw 51 rfl)) (mvT hZ (hq hw 50 rfl)) (by decide) (backOf (W := 0) (rmChL l Z a0 hw [] r0 (2 : Int32) ta kb (3 : Int32) [(.int (nar .byte (c0.toInt8.toInt32))), (.int (nar .byte (c1.toInt8.toInt32))), (.int (nar .byte (c2.toInt8.toInt32)))] (nar .byte (c2.toInt8.toInt32)) c2 cst fv h0 n0 Z0 E0 Fc Fv V0 O0 (by decide) (by decide) rfl (own_lat c2 hb2 hl2) SS) hZ (hq hw 52 rfl) (hq hw 3 rfl) (by decide) (by decide)) q82a q82c (g := (mkF m 12 #[rv r0, iv 2, iv c1] [(.int (2 : Int32)), (.ref r0)])) rfl (by rw [hml]; rfl) (Steps.refl _) (argsL := [(.int (2 : Int32))]) (rest := []) (lenOf pd_15 rfl) rfl (by show 2 * 0 + _ ≤ _; exact Nat.le_of_eq rfl) (hb hby d8_12) (fun _ _ => ⟨rfl, eh80, (by decide : 0 + 0 ≤ _), (by decide : 0 + 0 ≤ _)⟩)
        dsimp only [Pt.U, Pt.locs, Pt.cells, Pt.slots] at X82 l82 y82 z82 st82 hQ82
        subst l82 y82 z82
        obtain ⟨rfl, N82q, eh82⟩ := hQ82
        have N82 := Fr.app N80 N82q
        have G83 : ∀ t, Steps p.tables e below (T82.setTop (mkF m 19 #[rv r0, iv 2, iv c2] [(.int (32 : Int32)), (.int c2)])) t → Steps p.tables e below (s₁.setTop (entryFrame m #[(.ref r0)] 3)) t := by
         intro t kt
         refine G81 _ ?_
         refine XS.icmpNo X80.here hx rfl (hb hby d8_7) rfl (tlt (by decide)).2.1 ?_
         refine XS.aloadN X80.here hx rfl (hb hby d8_10) rfl rfl ?_
         refine XS.iloadN X80.here hx rfl (hb hby d8_11) rfl ?_
         show Steps p.tables e below (T80.setTop (mkF m 12 #[rv r0, iv 2, iv c1] [(.int (2 : Int32)), (.ref r0)])) _
         refine st82.trans ?_
         refine XS.istoreN X82.here hx rfl (hb hby d8_15) rfl (l' := #[rv r0, iv 2, iv c2]) rfl ?_
         refine XS.iloadN X82.here hx rfl (hb hby d8_16) rfl ?_
         refine XS.bipush X82.here hx rfl (hb hby d8_17) ?_
         exact kt
        by_cases hc19_84 : c2 < (32 : Int32)
        ·skip
         have G85 : ∀ t, Steps p.tables e below (T82.setTop (mkF m 25 #[rv r0, iv 2, iv c2] [(.int (9 : Int32)), (.int c2)])) t → Steps p.tables e below (s₁.setTop (entryFrame m #[(.ref r0)] 3)) t := by
          intro t kt
          refine G83 _ ?_
          refine XS.icmpNo X82.here hx rfl (hb hby d8_19) rfl (tlt hc19_84).2.1 ?_
          refine XS.iloadN X82.here hx rfl (hb hby d8_22) rfl ?_
          refine XS.bipush X82.here hx rfl (hb hby d8_23) ?_
          exact kt
         by_cases hc25_86 : c2 = (9 : Int32)
         ·skip
          have G87 : ∀ t, Steps p.tables e below (T82.setTop (mkF m 31 #[rv r0, iv 2, iv c2] [(.int (127 : Int32)), (.int c2)])) t → Steps p.tables e below (s₁.setTop (entryFrame m #[(.ref r0)] 3)) t := by
           intro t kt
           refine G85 _ ?_
           refine XS.icmpNo X82.here hx rfl (hb hby d8_25) rfl (teq hc25_86).2 ?_
           refine XS.iloadN X82.here hx rfl (hb hby d8_28) rfl ?_
           refine XS.bipush X82.here hx rfl (hb hby d8_29) ?_
           exact kt
          by_cases hc31_88 : c2 = (127 : Int32)
          ·skip
           obtain ⟨fs, hr, hrun, hended, hW, hsame⟩ := X82.leave (v := some (.int (0 : Int32))) (fun h => by rw [Bd.returns] at h; cases h)
           refine ⟨_, _, G87 _ ?_, hrun, hended, _, _, rfl, ?_, ⟨_, rfl⟩, hW, hsame.mono (by decide) (by decide)⟩
           ·skip
            refine XS.icmpYes X82.here hx rfl (pc0 := 31) (pc' := 41) rfl (hb hby d8_31) rfl (teq hc31_88).1 (by decide) (by decide) ?_
            refine XS.iconst X82.here hx rfl (hb hby d8_41) ?_
            exact retN X82 hx (t := .boolean) Bd.returns (by simp) (hb hby d8_42) hr
           ·show QrmFVL3 Z r0 c0 c1 c2 ta kb cst fv h0 n0 _ T82.heap _
            rw [eh82]
            exact ⟨by rw [own_fv, if_neg ((own_al c0).1 (by have q0 := hc19_5; have q1 := hc31_66; have q2 := hc38_68; simp only [Int32.lt_iff_toInt_lt, ← Int32.toInt_inj, own_k9, own_k32, own_k127, own_k255] at q0 q1 q2; omega)), own_fv, if_neg ((own_al c1).1 (by have q0 := hc19_73; have q1 := hc25_75; have q2 := hc31_77; have q3 := hc38_79; simp only [Int32.lt_iff_toInt_lt, ← Int32.toInt_inj, own_k9, own_k32, own_k127, own_k255] at q0 q1 q2 q3; omega)), own_fv, if_pos ((own_al c2).2 (by have q0 := hc19_84; have q1 := hc25_86; have q2 := hc31_88; simp only [Int32.lt_iff_toInt_lt, ← Int32.toInt_inj, own_k9, own_k32, own_k127, own_k255] at q0 q1 q2; omega))], N82, rfl⟩
          ·skip
           have G89 : ∀ t, Steps p.tables e below (T82.setTop (mkF m 38 #[rv r0, iv 2, iv c2] [(.int (255 : Int32)), (.int c2)])) t → Steps p.tables e below (s₁.setTop (entryFrame m #[(.ref r0)] 3)) t := by
            intro t kt
            refine G87 _ ?_
            refine XS.icmpNo X82.here hx rfl (hb hby d8_31) rfl (feq hc31_88).1 ?_
            refine XS.iloadN X82.here hx rfl (hb hby d8_34) rfl ?_
            refine XS.sipush X82.here hx rfl (hb hby d8_35) ?_
            exact kt
           by_cases hc38_90 : (255 : Int32) < c2
           ·skip
            obtain ⟨fs, hr, hrun, hended, hW, hsame⟩ := X82.leave (v := some (.int (0 : Int32))) (fun h => by rw [Bd.returns] at h; cases h)
            refine ⟨_, _, G89 _ ?_, hrun, hended, _, _, rfl, ?_, ⟨_, rfl⟩, hW, hsame.mono (by decide) (by decide)⟩
            ·skip
             refine XS.icmpNo X82.here hx rfl (hb hby d8_38) rfl (tlt hc38_90).2.2.2 ?_
             refine XS.iconst X82.here hx rfl (hb hby d8_41) ?_
             exact retN X82 hx (t := .boolean) Bd.returns (by simp) (hb hby d8_42) hr
            ·show QrmFVL3 Z r0 c0 c1 c2 ta kb cst fv h0 n0 _ T82.heap _
             rw [eh82]
             exact ⟨by rw [own_fv, if_neg ((own_al c0).1 (by have q0 := hc19_5; have q1 := hc31_66; have q2 := hc38_68; simp only [Int32.lt_iff_toInt_lt, ← Int32.toInt_inj, own_k9, own_k32, own_k127, own_k255] at q0 q1 q2; omega)), own_fv, if_neg ((own_al c1).1 (by have q0 := hc19_73; have q1 := hc25_75; have q2 := hc31_77; have q3 := hc38_79; simp only [Int32.lt_iff_toInt_lt, ← Int32.toInt_inj, own_k9, own_k32, own_k127, own_k255] at q0 q1 q2 q3; omega)), own_fv, if_pos ((own_al c2).2 (by have q0 := hc19_84; have q1 := hc25_86; have q2 := hc31_88; have q3 := hc38_90; simp only [Int32.lt_iff_toInt_lt, ← Int32.toInt_inj, own_k9, own_k32, own_k127, own_k255] at q0 q1 q2 q3; omega))], N82, rfl⟩
           ·skip
            obtain ⟨cq91, kq91, q91a, q91b, q91c⟩ := isOf hZ eh82 E0
            obtain ⟨_, _, ⟨T91, L91, k91, n91⟩, -, X91, ⟨Lc91, hQ91, l91, y91, z91⟩, st91⟩ := X82.virtualBack hx (y := (⟨"java/lang/String", "length", "()I"⟩ : MethodName)) (z := (⟨"java/lang/String", "length", "()I"⟩ : MethodName)) hown (mvT hZ (hq hw 38 rfl)) (mvT hZ (hq hw 39 rfl)) (notFace_of_selects (args := #[]) (mvT hZ (hq hw 41 rfl))) (mvT hZ (hq hw 41 rfl)) (mvT hZ (hq hw 40 rfl)) (by decide) (backOf (W := 1) (rm9 l Z a0 hw [] r0 (0 : Int32) ta kb (3 : Int32) [(.int (nar .byte (c0.toInt8.toInt32))), (.int (nar .byte (c1.toInt8.toInt32))), (.int (nar .byte (c2.toInt8.toInt32)))] (3 : Int32) cst fv h0 n0 Z0 E0 Fc Fv V0 O0 (by decide) SS) hZ (hq hw 42 rfl) (hq hw 3 rfl) (by decide) (by decide)) q91a q91c (g := (mkF m 4 #[rv r0, iv 3, iv c2] [(.ref r0), (.int (3 : Int32))])) rfl (by rw [hml]; rfl) (Steps.refl _) (argsL := []) (rest := [(.int (3 : Int32))]) (lenOf pd_14 rfl) rfl (by show 2 * 0 + _ ≤ _; exact Nat.le_of_eq rfl) (hb hby d8_4) (fun _ _ => ⟨rfl, eh82, (by decide : 0 + 0 ≤ _), (by decide : 0 + 0 ≤ _)⟩)
            dsimp only [Pt.U, Pt.locs, Pt.cells, Pt.slots] at X91 l91 y91 z91 st91 hQ91
            subst l91 y91 z91
            obtain ⟨rfl, N91q, eh91⟩ := hQ91
            have N91 := Fr.app N82 N91q
            have G92 : ∀ t, Steps p.tables e below (T91.setTop (mkF m 7 #[rv r0, iv 3, iv c2] [(.int (3 : Int32)), (.int (3 : Int32))])) t → Steps p.tables e below (s₁.setTop (entryFrame m #[(.ref r0)] 3)) t := by
             intro t kt
             refine G89 _ ?_
             refine XS.icmpYes X82.here hx rfl (pc0 := 38) (pc' := 43) rfl (hb hby d8_38) rfl (flt hc38_90).2.2.2 (by decide) (by decide) ?_
             refine XS.iinc X82.here hx rfl (hb hby d8_43) rfl (l' := #[rv r0, iv 3, iv c2]) rfl ?_
             refine XS.goto X82.here hx rfl (pc0 := 46) (pc' := 2) rfl (hb hby d8_46) (by decide) (by decide) ?_
             refine XS.iloadN X82.here hx rfl (hb hby d8_2) rfl ?_
             refine XS.aloadN X82.here hx rfl (hb hby d8_3) rfl rfl ?_
             refine st91.trans ?_
             exact kt
            obtain ⟨fs, hr, hrun, hended, hW, hsame⟩ := X91.leave (v := some (.int (1 : Int32))) (fun h => by rw [Bd.returns] at h; cases h)
            refine ⟨_, _, G92 _ ?_, hrun, hended, _, _, rfl, ?_, ⟨_, rfl⟩, hW, hsame.mono (by decide) (by decide)⟩
            ·skip
             refine XS.icmpYes X91.here hx rfl (pc0 := 7) (pc' := 49) rfl (hb hby d8_7) rfl (flt (by decide)).2.1 (by decide) (by decide) ?_
             refine XS.iconst X91.here hx rfl (hb hby d8_49) ?_
             exact retN X91 hx (t := .boolean) Bd.returns (by simp) (hb hby d8_50) hr
            ·show QrmFVL3 Z r0 c0 c1 c2 ta kb cst fv h0 n0 _ T91.heap _
             rw [eh91]
             exact ⟨by rw [own_fv, if_neg ((own_al c0).1 (by have q0 := hc19_5; have q1 := hc31_66; have q2 := hc38_68; simp only [Int32.lt_iff_toInt_lt, ← Int32.toInt_inj, own_k9, own_k32, own_k127, own_k255] at q0 q1 q2; omega)), own_fv, if_neg ((own_al c1).1 (by have q0 := hc19_73; have q1 := hc25_75; have q2 := hc31_77; have q3 := hc38_79; simp only [Int32.lt_iff_toInt_lt, ← Int32.toInt_inj, own_k9, own_k32, own_k127, own_k255] at q0 q1 q2 q3; omega)), own_fv, if_neg ((own_al c2).1 (by have q0 := hc19_84; have q1 := hc25_86; have q2 := hc31_88; have q3 := hc38_90; simp only [Int32.lt_iff_toInt_lt, ← Int32.toInt_inj, own_k9, own_k32, own_k127, own_k255] at q0 q1 q2 q3; omega)), own_fv], N91, rfl⟩
         ·skip
          obtain ⟨fs, hr, hrun, hended, hW, hsame⟩ := X82.leave (v := some (.int (0 : Int32))) (fun h => by rw [Bd.returns] at h; cases h)
          refine ⟨_, _, G85 _ ?_, hrun, hended, _, _, rfl, ?_, ⟨_, rfl⟩, hW, hsame.mono (by decide) (by decide)⟩
          ·skip
           refine XS.icmpYes X82.here hx rfl (pc0 := 25) (pc' := 41) rfl (hb hby d8_25) rfl (feq hc25_86).2 (by decide) (by decide) ?_
           refine XS.iconst X82.here hx rfl (hb hby d8_41) ?_
           exact retN X82 hx (t := .boolean) Bd.returns (by simp) (hb hby d8_42) hr
          ·show QrmFVL3 Z r0 c0 c1 c2 ta kb cst fv h0 n0 _ T82.heap _
           rw [eh82]
           exact ⟨by rw [own_fv, if_neg ((own_al c0).1 (by have q0 := hc19_5; have q1 := hc31_66; have q2 := hc38_68; simp only [Int32.lt_iff_toInt_lt, ← Int32.toInt_inj, own_k9, own_k32, own_k127, own_k255] at q0 q1 q2; omega)), own_fv, if_neg ((own_al c1).1 (by have q0 := hc19_73; have q1 := hc25_75; have q2 := hc31_77; have q3 := hc38_79; simp only [Int32.lt_iff_toInt_lt, ← Int32.toInt_inj, own_k9, own_k32, own_k127, own_k255] at q0 q1 q2 q3; omega)), own_fv, if_pos ((own_al c2).2 (by have q0 := hc19_84; have q1 := hc25_86; simp only [Int32.lt_iff_toInt_lt, ← Int32.toInt_inj, own_k9, own_k32, own_k127, own_k255] at q0 q1; omega))], N82, rfl⟩
        ·skip
         have G93 : ∀ t, Steps p.tables e below (T82.setTop (mkF m 31 #[rv r0, iv 2, iv c2] [(.int (127 : Int32)), (.int c2)])) t → Steps p.tables e below (s₁.setTop (entryFrame m #[(.ref r0)] 3)) t := by
          intro t kt
          refine G83 _ ?_
          refine XS.icmpYes X82.here hx rfl (pc0 := 19) (pc' := 28) rfl (hb hby d8_19) rfl (flt hc19_84).2.1 (by decide) (by decide) ?_
          refine XS.iloadN X82.here hx rfl (hb hby d8_28) rfl ?_
          refine XS.bipush X82.here hx rfl (hb hby d8_29) ?_
          exact kt
         by_cases hc31_94 : c2 = (127 : Int32)
         ·skip
          obtain ⟨fs, hr, hrun, hended, hW, hsame⟩ := X82.leave (v := some (.int (0 : Int32))) (fun h => by rw [Bd.returns] at h; cases h)
          refine ⟨_, _, G93 _ ?_, hrun, hended, _, _, rfl, ?_, ⟨_, rfl⟩, hW, hsame.mono (by decide) (by decide)⟩
          ·skip
           refine XS.icmpYes X82.here hx rfl (pc0 := 31) (pc' := 41) rfl (hb hby d8_31) rfl (teq hc31_94).1 (by decide) (by decide) ?_
           refine XS.iconst X82.here hx rfl (hb hby d8_41) ?_
           exact retN X82 hx (t := .boolean) Bd.returns (by simp) (hb hby d8_42) hr
          ·show QrmFVL3 Z r0 c0 c1 c2 ta kb cst fv h0 n0 _ T82.heap _
           rw [eh82]
           exact ⟨by rw [own_fv, if_neg ((own_al c0).1 (by have q0 := hc19_5; have q1 := hc31_66; have q2 := hc38_68; simp only [Int32.lt_iff_toInt_lt, ← Int32.toInt_inj, own_k9, own_k32, own_k127, own_k255] at q0 q1 q2; omega)), own_fv, if_neg ((own_al c1).1 (by have q0 := hc19_73; have q1 := hc25_75; have q2 := hc31_77; have q3 := hc38_79; simp only [Int32.lt_iff_toInt_lt, ← Int32.toInt_inj, own_k9, own_k32, own_k127, own_k255] at q0 q1 q2 q3; omega)), own_fv, if_pos ((own_al c2).2 (by have q0 := hc19_84; have q1 := hc31_94; simp only [Int32.lt_iff_toInt_lt, ← Int32.toInt_inj, own_k9, own_k32, own_k127, own_k255] at q0 q1; omega))], N82, rfl⟩
         ·skip
          have G95 : ∀ t, Steps p.tables e below (T82.setTop (mkF m 38 #[rv r0, iv 2, iv c2] [(.int (255 : Int32)), (.int c2)])) t → Steps p.tables e below (s₁.setTop (entryFrame m #[(.ref r0)] 3)) t := by
           intro t kt
           refine G93 _ ?_
           refine XS.icmpNo X82.here hx rfl (hb hby d8_31) rfl (feq hc31_94).1 ?_
           refine XS.iloadN X82.here hx rfl (hb hby d8_34) rfl ?_
           refine XS.sipush X82.here hx rfl (hb hby d8_35) ?_
           exact kt
          by_cases hc38_96 : (255 : Int32) < c2
          ·skip
           obtain ⟨fs, hr, hrun, hended, hW, hsame⟩ := X82.leave (v := some (.int (0 : Int32))) (fun h => by rw [Bd.returns] at h; cases h)
           refine ⟨_, _, G95 _ ?_, hrun, hended, _, _, rfl, ?_, ⟨_, rfl⟩, hW, hsame.mono (by decide) (by decide)⟩
           ·skip
            refine XS.icmpNo X82.here hx rfl (hb hby d8_38) rfl (tlt hc38_96).2.2.2 ?_
            refine XS.iconst X82.here hx rfl (hb hby d8_41) ?_
            exact retN X82 hx (t := .boolean) Bd.returns (by simp) (hb hby d8_42) hr
           ·show QrmFVL3 Z r0 c0 c1 c2 ta kb cst fv h0 n0 _ T82.heap _
            rw [eh82]
            exact ⟨by rw [own_fv, if_neg ((own_al c0).1 (by have q0 := hc19_5; have q1 := hc31_66; have q2 := hc38_68; simp only [Int32.lt_iff_toInt_lt, ← Int32.toInt_inj, own_k9, own_k32, own_k127, own_k255] at q0 q1 q2; omega)), own_fv, if_neg ((own_al c1).1 (by have q0 := hc19_73; have q1 := hc25_75; have q2 := hc31_77; have q3 := hc38_79; simp only [Int32.lt_iff_toInt_lt, ← Int32.toInt_inj, own_k9, own_k32, own_k127, own_k255] at q0 q1 q2 q3; omega)), own_fv, if_pos ((own_al c2).2 (by have q0 := hc19_84; have q1 := hc31_94; have q2 := hc38_96; simp only [Int32.lt_iff_toInt_lt, ← Int32.toInt_inj, own_k9, own_k32, own_k127, own_k255] at q0 q1 q2; omega))], N82, rfl⟩
          ·skip
           obtain ⟨cq97, kq97, q97a, q97b, q97c⟩ := isOf hZ eh82 E0
           obtain ⟨_, _, ⟨T97, L97, k97, n97⟩, -, X97, ⟨Lc97, hQ97, l97, y97, z97⟩, st97⟩ := X82.virtualBack hx (y := (⟨"java/lang/String", "length", "()I"⟩ : MethodName)) (z := (⟨"java/lang/String", "length", "()I"⟩ : MethodName)) hown (mvT hZ (hq hw 38 rfl)) (mvT hZ (hq hw 39 rfl)) (notFace_of_selects (args := #[]) (mvT hZ (hq hw 41 rfl))) (mvT hZ (hq hw 41 rfl)) (mvT hZ (hq hw 40 rfl)) (by decide) (backOf (W := 1) (rm9 l Z a0 hw [] r0 (0 : Int32) ta kb (3 : Int32) [(.int (nar .byte (c0.toInt8.toInt32))), (.int (nar .byte (c1.toInt8.toInt32))), (.int (nar .byte (c2.toInt8.toInt32)))] (3 : Int32) cst fv h0 n0 Z0 E0 Fc Fv V0 O0 (by decide) SS) hZ (hq hw 42 rfl) (hq hw 3 rfl) (by decide) (by decide)) q97a q97c (g := (mkF m 4 #[rv r0, iv 3, iv c2] [(.ref r0), (.int (3 : Int32))])) rfl (by rw [hml]; rfl) (Steps.refl _) (argsL := []) (rest := [(.int (3 : Int32))]) (lenOf pd_14 rfl) rfl (by show 2 * 0 + _ ≤ _; exact Nat.le_of_eq rfl) (hb hby d8_4) (fun _ _ => ⟨rfl, eh82, (by decide : 0 + 0 ≤ _), (by decide : 0 + 0 ≤ _)⟩)
           dsimp only [Pt.U, Pt.locs, Pt.cells, Pt.slots] at X97 l97 y97 z97 st97 hQ97
           subst l97 y97 z97
           obtain ⟨rfl, N97q, eh97⟩ := hQ97
           have N97 := Fr.app N82 N97q
           have G98 : ∀ t, Steps p.tables e below (T97.setTop (mkF m 7 #[rv r0, iv 3, iv c2] [(.int (3 : Int32)), (.int (3 : Int32))])) t → Steps p.tables e below (s₁.setTop (entryFrame m #[(.ref r0)] 3)) t := by
            intro t kt
            refine G95 _ ?_
            refine XS.icmpYes X82.here hx rfl (pc0 := 38) (pc' := 43) rfl (hb hby d8_38) rfl (flt hc38_96).2.2.2 (by decide) (by decide) ?_
            refine XS.iinc X82.here hx rfl (hb hby d8_43) rfl (l' := #[rv r0, iv 3, iv c2]) rfl ?_
            refine XS.goto X82.here hx rfl (pc0 := 46) (pc' := 2) rfl (hb hby d8_46) (by decide) (by decide) ?_
            refine XS.iloadN X82.here hx rfl (hb hby d8_2) rfl ?_
            refine XS.aloadN X82.here hx rfl (hb hby d8_3) rfl rfl ?_
            refine st97.trans ?_
            exact kt
           obtain ⟨fs, hr, hrun, hended, hW, hsame⟩ := X97.leave (v := some (.int (1 : Int32))) (fun h => by rw [Bd.returns] at h; cases h)
           refine ⟨_, _, G98 _ ?_, hrun, hended, _, _, rfl, ?_, ⟨_, rfl⟩, hW, hsame.mono (by decide) (by decide)⟩
           ·skip
            refine XS.icmpYes X97.here hx rfl (pc0 := 7) (pc' := 49) rfl (hb hby d8_7) rfl (flt (by decide)).2.1 (by decide) (by decide) ?_
            refine XS.iconst X97.here hx rfl (hb hby d8_49) ?_
            exact retN X97 hx (t := .boolean) Bd.returns (by simp) (hb hby d8_50) hr
           ·show QrmFVL3 Z r0 c0 c1 c2 ta kb cst fv h0 n0 _ T97.heap _
            rw [eh97]
            exact ⟨by rw [own_fv, if_neg ((own_al c0).1 (by have q0 := hc19_5; have q1 := hc31_66; have q2 := hc38_68; simp only [Int32.lt_iff_toInt_lt, ← Int32.toInt_inj, own_k9, own_k32, own_k127, own_k255] at q0 q1 q2; omega)), own_fv, if_neg ((own_al c1).1 (by have q0 := hc19_73; have q1 := hc25_75; have q2 := hc31_77; have q3 := hc38_79; simp only [Int32.lt_iff_toInt_lt, ← Int32.toInt_inj, own_k9, own_k32, own_k127, own_k255] at q0 q1 q2 q3; omega)), own_fv, if_neg ((own_al c2).1 (by have q0 := hc19_84; have q1 := hc31_94; have q2 := hc38_96; simp only [Int32.lt_iff_toInt_lt, ← Int32.toInt_inj, own_k9, own_k32, own_k127, own_k255] at q0 q1 q2; omega)), own_fv], N97, rfl⟩
     ·skip
      obtain ⟨fs, hr, hrun, hended, hW, hsame⟩ := X71.leave (v := some (.int (0 : Int32))) (fun h => by rw [Bd.returns] at h; cases h)
      refine ⟨_, _, G74 _ ?_, hrun, hended, _, _, rfl, ?_, ⟨_, rfl⟩, hW, hsame.mono (by decide) (by decide)⟩
      ·skip
       refine XS.icmpYes X71.here hx rfl (pc0 := 25) (pc' := 41) rfl (hb hby d8_25) rfl (feq hc25_75).2 (by decide) (by decide) ?_
       refine XS.iconst X71.here hx rfl (hb hby d8_41) ?_
       exact retN X71 hx (t := .boolean) Bd.returns (by simp) (hb hby d8_42) hr
      ·show QrmFVL3 Z r0 c0 c1 c2 ta kb cst fv h0 n0 _ T71.heap _
       rw [eh71]
       exact ⟨by rw [own_fv, if_neg ((own_al c0).1 (by have q0 := hc19_5; have q1 := hc31_66; have q2 := hc38_68; simp only [Int32.lt_iff_toInt_lt, ← Int32.toInt_inj, own_k9, own_k32, own_k127, own_k255] at q0 q1 q2; omega)), own_fv, if_pos ((own_al c1).2 (by have q0 := hc19_73; have q1 := hc25_75; simp only [Int32.lt_iff_toInt_lt, ← Int32.toInt_inj, own_k9, own_k32, own_k127, own_k255] at q0 q1; omega))], N71, rfl⟩
    ·skip
     have G99 : ∀ t, Steps p.tables e below (T71.setTop (mkF m 31 #[rv r0, iv 1, iv c1] [(.int (127 : Int32)), (.int c1)])) t → Steps p.tables e below (s₁.setTop (entryFrame m #[(.ref r0)] 3)) t := by
      intro t kt
      refine G72 _ ?_
      refine XS.icmpYes X71.here hx rfl (pc0 := 19) (pc' := 28) rfl (hb hby d8_19) rfl (flt hc19_73).2.1 (by decide) (by decide) ?_
      refine XS.iloadN X71.here hx rfl (hb hby d8_28) rfl ?_
      refine XS.bipush X71.here hx rfl (hb hby d8_29) ?_
      exact kt
     by_cases hc31_100 : c1 = (127 : Int32)
     ·skip
      obtain ⟨fs, hr, hrun, hended, hW, hsame⟩ := X71.leave (v := some (.int (0 : Int32))) (fun h => by rw [Bd.returns] at h; cases h)
      refine ⟨_, _, G99 _ ?_, hrun, hended, _, _, rfl, ?_, ⟨_, rfl⟩, hW, hsame.mono (by decide) (by decide)⟩
      ·skip
       refine XS.icmpYes X71.here hx rfl (pc0 := 31) (pc' := 41) rfl (hb hby d8_31) rfl (teq hc31_100).1 (by decide) (by decide) ?_
       refine XS.iconst X71.here hx rfl (hb hby d8_41) ?_
       exact retN X71 hx (t := .boolean) Bd.returns (by simp) (hb hby d8_42) hr
      ·show QrmFVL3 Z r0 c0 c1 c2 ta kb cst fv h0 n0 _ T71.heap _
       rw [eh71]
       exact ⟨by rw [own_fv, if_neg ((own_al c0).1 (by have q0 := hc19_5; have q1 := hc31_66; have q2 := hc38_68; simp only [Int32.lt_iff_toInt_lt, ← Int32.toInt_inj, own_k9, own_k32, own_k127, own_k255] at q0 q1 q2; omega)), own_fv, if_pos ((own_al c1).2 (by have q0 := hc19_73; have q1 := hc31_100; simp only [Int32.lt_iff_toInt_lt, ← Int32.toInt_inj, own_k9, own_k32, own_k127, own_k255] at q0 q1; omega))], N71, rfl⟩
     ·skip
      have G101 : ∀ t, Steps p.tables e below (T71.setTop (mkF m 38 #[rv r0, iv 1, iv c1] [(.int (255 : Int32)), (.int c1)])) t → Steps p.tables e below (s₁.setTop (entryFrame m #[(.ref r0)] 3)) t := by
       intro t kt
       refine G99 _ ?_
       refine XS.icmpNo X71.here hx rfl (hb hby d8_31) rfl (feq hc31_100).1 ?_
       refine XS.iloadN X71.here hx rfl (hb hby d8_34) rfl ?_
       refine XS.sipush X71.here hx rfl (hb hby d8_35) ?_
       exact kt
      by_cases hc38_102 : (255 : Int32) < c1
      ·skip
       obtain ⟨fs, hr, hrun, hended, hW, hsame⟩ := X71.leave (v := some (.int (0 : Int32))) (fun h => by rw [Bd.returns] at h; cases h)
       refine ⟨_, _, G101 _ ?_, hrun, hended, _, _, rfl, ?_, ⟨_, rfl⟩, hW, hsame.mono (by decide) (by decide)⟩
       ·skip
        refine XS.icmpNo X71.here hx rfl (hb hby d8_38) rfl (tlt hc38_102).2.2.2 ?_
        refine XS.iconst X71.here hx rfl (hb hby d8_41) ?_
        exact retN X71 hx (t := .boolean) Bd.returns (by simp) (hb hby d8_42) hr
       ·show QrmFVL3 Z r0 c0 c1 c2 ta kb cst fv h0 n0 _ T71.heap _
        rw [eh71]
        exact ⟨by rw [own_fv, if_neg ((own_al c0).1 (by have q0 := hc19_5; have q1 := hc31_66; have q2 := hc38_68; simp only [Int32.lt_iff_toInt_lt, ← Int32.toInt_inj, own_k9, own_k32, own_k127, own_k255] at q0 q1 q2; omega)), own_fv, if_pos ((own_al c1).2 (by have q0 := hc19_73; have q1 := hc31_100; have q2 := hc38_102; simp only [Int32.lt_iff_toInt_lt, ← Int32.toInt_inj, own_k9, own_k32, own_k127, own_k255] at q0 q1 q2; omega))], N71, rfl⟩
      ·skip
       obtain ⟨cq103, kq103, q103a, q103b, q103c⟩ := isOf hZ eh71 E0
       obtain ⟨_, _, ⟨T103, L103, k103, n103⟩, -, X103, ⟨Lc103, hQ103, l103, y103, z103⟩, st103⟩ := X71.virtualBack hx (y := (⟨"java/lang/String", "length", "()I"⟩ : MethodName)) (z := (⟨"java/lang/String", "length", "()I"⟩ : MethodName)) hown (mvT hZ (hq hw 38 rfl)) (mvT hZ (hq hw 39 rfl)) (notFace_of_selects (args := #[]) (mvT hZ (hq hw 41 rfl))) (mvT hZ (hq hw 41 rfl)) (mvT hZ (hq hw 40 rfl)) (by decide) (backOf (W := 1) (rm9 l Z a0 hw [] r0 (0 : Int32) ta kb (3 : Int32) [(.int (nar .byte (c0.toInt8.toInt32))), (.int (nar .byte (c1.toInt8.toInt32))), (.int (nar .byte (c2.toInt8.toInt32)))] (3 : Int32) cst fv h0 n0 Z0 E0 Fc Fv V0 O0 (by decide) SS) hZ (hq hw 42 rfl) (hq hw 3 rfl) (by decide) (by decide)) q103a q103c (g := (mkF m 4 #[rv r0, iv 2, iv c1] [(.ref r0), (.int (2 : Int32))])) rfl (by rw [hml]; rfl) (Steps.refl _) (argsL := []) (rest := [(.int (2 : Int32))]) (lenOf pd_14 rfl) rfl (by show 2 * 0 + _ ≤ _; exact Nat.le_of_eq rfl) (hb hby d8_4) (fun _ _ => ⟨rfl, eh71, (by decide : 0 + 0 ≤ _), (by decide : 0 + 0 ≤ _)⟩)
       dsimp only [Pt.U, Pt.locs, Pt.cells, Pt.slots] at X103 l103 y103 z103 st103 hQ103
       subst l103 y103 z103
       obtain ⟨rfl, N103q, eh103⟩ := hQ103
       have N103 := Fr.app N71 N103q
       have G104 : ∀ t, Steps p.tables e below (T103.setTop (mkF m 7 #[rv r0, iv 2, iv c1] [(.int (3 : Int32)), (.int (2 : Int32))])) t → Steps p.tables e below (s₁.setTop (entryFrame m #[(.ref r0)] 3)) t := by
        intro t kt
        refine G101 _ ?_
        refine XS.icmpYes X71.here hx rfl (pc0 := 38) (pc' := 43) rfl (hb hby d8_38) rfl (flt hc38_102).2.2.2 (by decide) (by decide) ?_
        refine XS.iinc X71.here hx rfl (hb hby d8_43) rfl (l' := #[rv r0, iv 2, iv c1]) rfl ?_
        refine XS.goto X71.here hx rfl (pc0 := 46) (pc' := 2) rfl (hb hby d8_46) (by decide) (by decide) ?_
        refine XS.iloadN X71.here hx rfl (hb hby d8_2) rfl ?_
        refine XS.aloadN X71.here hx rfl (hb hby d8_3) rfl rfl ?_
        refine st103.trans ?_
        exact kt
       obtain ⟨cq105, kq105, q105a, q105b, q105c⟩ := isOf hZ eh103 E0
       obtain ⟨_, _, ⟨T105, L105, k105, n105⟩, -, X105, ⟨Lc105, hQ105, l105, y105, z105⟩, st105⟩ := X103.virtualBack hx (y := (⟨"java/lang/String", "charAt", "(I)C"⟩ : MethodName)) (z := (⟨"java/lang/String", "charAt", "(I)C"⟩ : MethodName)) hown (mvT hZ (hq hw 48 rfl)) (mvT hZ (hq hw 49 rfl)) (notFace_of_selects (args := #[]) (mvT hZ (hq hw 51 rfl))) (mvT hZ (hq hw 51 rfl)) (mvT hZ (hq hw 50 rfl)) (by decide) (backOf (W := 0) (rmChL l Z a0 hw [] r0 (2 : Int32) ta kb (3 : Int32) [(.int (nar .byte (c0.toInt8.toInt32))), (.int (nar .byte (c1.toInt8.toInt32))), (.int (nar .byte (c2.toInt8.toInt32)))] (nar .byte (c2.toInt8.toInt32)) c2 cst fv h0 n0 Z0 E0 Fc Fv V0 O0 (by decide) (by decide) rfl (own_lat c2 hb2 hl2) SS) hZ (hq hw 52 rfl) (hq hw 3 rfl) (by decide) (by decide)) q105a q105c (g := (mkF m 12 #[rv r0, iv 2, iv c1] [(.int (2 : Int32)), (.ref r0)])) rfl (by rw [hml]; rfl) (Steps.refl _) (argsL := [(.int (2 : Int32))]) (rest := []) (lenOf pd_15 rfl) rfl (by show 2 * 0 + _ ≤ _; exact Nat.le_of_eq rfl) (hb hby d8_12) (fun _ _ => ⟨rfl, eh103, (by decide : 0 + 0 ≤ _), (by decide : 0 + 0 ≤ _)⟩)
       dsimp only [Pt.U, Pt.locs, Pt.cells, Pt.slots] at X105 l105 y105 z105 st105 hQ105
       subst l105 y105 z105
       obtain ⟨rfl, N105q, eh105⟩ := hQ105
       have N105 := Fr.app N103 N105q
       have G106 : ∀ t, Steps p.tables e below (T105.setTop (mkF m 19 #[rv r0, iv 2, iv c2] [(.int (32 : Int32)), (.int c2)])) t → Steps p.tables e below (s₁.setTop (entryFrame m #[(.ref r0)] 3)) t := by
        intro t kt
        refine G104 _ ?_
        refine XS.icmpNo X103.here hx rfl (hb hby d8_7) rfl (tlt (by decide)).2.1 ?_
        refine XS.aloadN X103.here hx rfl (hb hby d8_10) rfl rfl ?_
        refine XS.iloadN X103.here hx rfl (hb hby d8_11) rfl ?_
        refine st105.trans ?_
        refine XS.istoreN X105.here hx rfl (hb hby d8_15) rfl (l' := #[rv r0, iv 2, iv c2]) rfl ?_
        show Steps p.tables e below (T105.setTop (mkF m 16 #[rv r0, iv 2, iv c2] [])) _
        refine XS.iloadN X105.here hx rfl (hb hby d8_16) rfl ?_
        refine XS.bipush X105.here hx rfl (hb hby d8_17) ?_
        exact kt
       by_cases hc19_107 : c2 < (32 : Int32)
       ·skip
        have G108 : ∀ t, Steps p.tables e below (T105.setTop (mkF m 25 #[rv r0, iv 2, iv c2] [(.int (9 : Int32)), (.int c2)])) t → Steps p.tables e below (s₁.setTop (entryFrame m #[(.ref r0)] 3)) t := by
         intro t kt
         refine G106 _ ?_
         refine XS.icmpNo X105.here hx rfl (hb hby d8_19) rfl (tlt hc19_107).2.1 ?_
         refine XS.iloadN X105.here hx rfl (hb hby d8_22) rfl ?_
         refine XS.bipush X105.here hx rfl (hb hby d8_23) ?_
         exact kt
        by_cases hc25_109 : c2 = (9 : Int32)
        ·skip
         have G110 : ∀ t, Steps p.tables e below (T105.setTop (mkF m 31 #[rv r0, iv 2, iv c2] [(.int (127 : Int32)), (.int c2)])) t → Steps p.tables e below (s₁.setTop (entryFrame m #[(.ref r0)] 3)) t := by
          intro t kt
          refine G108 _ ?_
          refine XS.icmpNo X105.here hx rfl (hb hby d8_25) rfl (teq hc25_109).2 ?_
          refine XS.iloadN X105.here hx rfl (hb hby d8_28) rfl ?_
          refine XS.bipush X105.here hx rfl (hb hby d8_29) ?_
          exact kt
         by_cases hc31_111 : c2 = (127 : Int32)
         ·skip
          obtain ⟨fs, hr, hrun, hended, hW, hsame⟩ := X105.leave (v := some (.int (0 : Int32))) (fun h => by rw [Bd.returns] at h; cases h)
          refine ⟨_, _, G110 _ ?_, hrun, hended, _, _, rfl, ?_, ⟨_, rfl⟩, hW, hsame.mono (by decide) (by decide)⟩
          ·skip
           refine XS.icmpYes X105.here hx rfl (pc0 := 31) (pc' := 41) rfl (hb hby d8_31) rfl (teq hc31_111).1 (by decide) (by decide) ?_
           refine XS.iconst X105.here hx rfl (hb hby d8_41) ?_
           exact retN X105 hx (t := .boolean) Bd.returns (by simp) (hb hby d8_42) hr
          ·show QrmFVL3 Z r0 c0 c1 c2 ta kb cst fv h0 n0 _ T105.heap _
           rw [eh105]
           exact ⟨by rw [own_fv, if_neg ((own_al c0).1 (by have q0 := hc19_5; have q1 := hc31_66; have q2 := hc38_68; simp only [Int32.lt_iff_toInt_lt, ← Int32.toInt_inj, own_k9, own_k32, own_k127, own_k255] at q0 q1 q2; omega)), own_fv, if_neg ((own_al c1).1 (by have q0 := hc19_73; have q1 := hc31_100; have q2 := hc38_102; simp only [Int32.lt_iff_toInt_lt, ← Int32.toInt_inj, own_k9, own_k32, own_k127, own_k255] at q0 q1 q2; omega)), own_fv, if_pos ((own_al c2).2 (by have q0 := hc19_107; have q1 := hc25_109; have q2 := hc31_111; simp only [Int32.lt_iff_toInt_lt, ← Int32.toInt_inj, own_k9, own_k32, own_k127, own_k255] at q0 q1 q2; omega))], N105, rfl⟩
         ·skip
          have G112 : ∀ t, Steps p.tables e below (T105.setTop (mkF m 38 #[rv r0, iv 2, iv c2] [(.int (255 : Int32)), (.int c2)])) t → Steps p.tables e below (s₁.setTop (entryFrame m #[(.ref r0)] 3)) t := by
           intro t kt
           refine G110 _ ?_
           refine XS.icmpNo X105.here hx rfl (hb hby d8_31) rfl (feq hc31_111).1 ?_
           refine XS.iloadN X105.here hx rfl (hb hby d8_34) rfl ?_
           refine XS.sipush X105.here hx rfl (hb hby d8_35) ?_
           exact kt
          by_cases hc38_113 : (255 : Int32) < c2
          ·skip
           obtain ⟨fs, hr, hrun, hended, hW, hsame⟩ := X105.leave (v := some (.int (0 : Int32))) (fun h => by rw [Bd.returns] at h; cases h)
           refine ⟨_, _, G112 _ ?_, hrun, hended, _, _, rfl, ?_, ⟨_, rfl⟩, hW, hsame.mono (by decide) (by decide)⟩
           ·skip
            refine XS.icmpNo X105.here hx rfl (hb hby d8_38) rfl (tlt hc38_113).2.2.2 ?_
            refine XS.iconst X105.here hx rfl (hb hby d8_41) ?_
            exact retN X105 hx (t := .boolean) Bd.returns (by simp) (hb hby d8_42) hr
           ·show QrmFVL3 Z r0 c0 c1 c2 ta kb cst fv h0 n0 _ T105.heap _
            rw [eh105]
            exact ⟨by rw [own_fv, if_neg ((own_al c0).1 (by have q0 := hc19_5; have q1 := hc31_66; have q2 := hc38_68; simp only [Int32.lt_iff_toInt_lt, ← Int32.toInt_inj, own_k9, own_k32, own_k127, own_k255] at q0 q1 q2; omega)), own_fv, if_neg ((own_al c1).1 (by have q0 := hc19_73; have q1 := hc31_100; have q2 := hc38_102; simp only [Int32.lt_iff_toInt_lt, ← Int32.toInt_inj, own_k9, own_k32, own_k127, own_k255] at q0 q1 q2; omega)), own_fv, if_pos ((own_al c2).2 (by have q0 := hc19_107; have q1 := hc25_109; have q2 := hc31_111; have q3 := hc38_113; simp only [Int32.lt_iff_toInt_lt, ← Int32.toInt_inj, own_k9, own_k32, own_k127, own_k255] at q0 q1 q2 q3; omega))], N105, rfl⟩
          ·skip
           obtain ⟨cq114, kq114, q114a, q114b, q114c⟩ := isOf hZ eh105 E0
           obtain ⟨_, _, ⟨T114, L114, k114, n114⟩, -, X114, ⟨Lc114, hQ114, l114, y114, z114⟩, st114⟩ := X105.virtualBack hx (y := (⟨"java/lang/String", "length", "()I"⟩ : MethodName)) (z := (⟨"java/lang/String", "length", "()I"⟩ : MethodName)) hown (mvT hZ (hq hw 38 rfl)) (mvT hZ (hq hw 39 rfl)) (notFace_of_selects (args := #[]) (mvT hZ (hq hw 41 rfl))) (mvT hZ (hq hw 41 rfl)) (mvT hZ (hq hw 40 rfl)) (by decide) (backOf (W := 1) (rm9 l Z a0 hw [] r0 (0 : Int32) ta kb (3 : Int32) [(.int (nar .byte (c0.toInt8.toInt32))), (.int (nar .byte (c1.toInt8.toInt32))), (.int (nar .byte (c2.toInt8.toInt32)))] (3 : Int32) cst fv h0 n0 Z0 E0 Fc Fv V0 O0 (by decide) SS) hZ (hq hw 42 rfl) (hq hw 3 rfl) (by decide) (by decide)) q114a q114c (g := (mkF m 4 #[rv r0, iv 3, iv c2] [(.ref r0), (.int (3 : Int32))])) rfl (by rw [hml]; rfl) (Steps.refl _) (argsL := []) (rest := [(.int (3 : Int32))]) (lenOf pd_14 rfl) rfl (by show 2 * 0 + _ ≤ _; exact Nat.le_of_eq rfl) (hb hby d8_4) (fun _ _ => ⟨rfl, eh105, (by decide : 0 + 0 ≤ _), (by decide : 0 + 0 ≤ _)⟩)
           dsimp only [Pt.U, Pt.locs, Pt.cells, Pt.slots] at X114 l114 y114 z114 st114 hQ114
           subst l114 y114 z114
           obtain ⟨rfl, N114q, eh114⟩ := hQ114
           have N114 := Fr.app N105 N114q
           have G115 : ∀ t, Steps p.tables e below (T114.setTop (mkF m 7 #[rv r0, iv 3, iv c2] [(.int (3 : Int32)), (.int (3 : Int32))])) t → Steps p.tables e below (s₁.setTop (entryFrame m #[(.ref r0)] 3)) t := by
            intro t kt
            refine G112 _ ?_
            refine XS.icmpYes X105.here hx rfl (pc0 := 38) (pc' := 43) rfl (hb hby d8_38) rfl (flt hc38_113).2.2.2 (by decide) (by decide) ?_
            refine XS.iinc X105.here hx rfl (hb hby d8_43) rfl (l' := #[rv r0, iv 3, iv c2]) rfl ?_
            refine XS.goto X105.here hx rfl (pc0 := 46) (pc' := 2) rfl (hb hby d8_46) (by decide) (by decide) ?_
            refine XS.iloadN X105.here hx rfl (hb hby d8_2) rfl ?_
            refine XS.aloadN X105.here hx rfl (hb hby d8_3) rfl rfl ?_
            refine st114.trans ?_
            exact kt
           obtain ⟨fs, hr, hrun, hended, hW, hsame⟩ := X114.leave (v := some (.int (1 : Int32))) (fun h => by rw [Bd.returns] at h; cases h)
           refine ⟨_, _, G115 _ ?_, hrun, hended, _, _, rfl, ?_, ⟨_, rfl⟩, hW, hsame.mono (by decide) (by decide)⟩
           ·skip
            refine XS.icmpYes X114.here hx rfl (pc0 := 7) (pc' := 49) rfl (hb hby d8_7) rfl (flt (by decide)).2.1 (by decide) (by decide) ?_
            refine XS.iconst X114.here hx rfl (hb hby d8_49) ?_
            exact retN X114 hx (t := .boolean) Bd.returns (by simp) (hb hby d8_50) hr
           ·show QrmFVL3 Z r0 c0 c1 c2 ta kb cst fv h0 n0 _ T114.heap _
            rw [eh114]
            exact ⟨by rw [own_fv, if_neg ((own_al c0).1 (by have q0 := hc19_5; have q1 := hc31_66; have q2 := hc38_68; simp only [Int32.lt_iff_toInt_lt, ← Int32.toInt_inj, own_k9, own_k32, own_k127, own_k255] at q0 q1 q2; omega)), own_fv, if_neg ((own_al c1).1 (by have q0 := hc19_73; have q1 := hc31_100; have q2 := hc38_102; simp only [Int32.lt_iff_toInt_lt, ← Int32.toInt_inj, own_k9, own_k32, own_k127, own_k255] at q0 q1 q2; omega)), own_fv, if_neg ((own_al c2).1 (by have q0 := hc19_107; have q1 := hc25_109; have q2 := hc31_111; have q3 := hc38_113; simp only [Int32.lt_iff_toInt_lt, ← Int32.toInt_inj, own_k9, own_k32, own_k127, own_k255] at q0 q1 q2 q3; omega)), own_fv], N114, rfl⟩
        ·skip
         obtain ⟨fs, hr, hrun, hended, hW, hsame⟩ := X105.leave (v := some (.int (0 : Int32))) (fun h => by rw [Bd.returns] at h; cases h)
         refine ⟨_, _, G108 _ ?_, hrun, hended, _, _, rfl, ?_, ⟨_, rfl⟩, hW, hsame.mono (by decide) (by decide)⟩
         ·skip
          refine XS.icmpYes X105.here hx rfl (pc0 := 25) (pc' := 41) rfl (hb hby d8_25) rfl (feq hc25_109).2 (by decide) (by decide) ?_
          refine XS.iconst X105.here hx rfl (hb hby d8_41) ?_
          exact retN X105 hx (t := .boolean) Bd.returns (by simp) (hb hby d8_42) hr
         ·show QrmFVL3 Z r0 c0 c1 c2 ta kb cst fv h0 n0 _ T105.heap _
          rw [eh105]
          exact ⟨by rw [own_fv, if_neg ((own_al c0).1 (by have q0 := hc19_5; have q1 := hc31_66; have q2 := hc38_68; simp only [Int32.lt_iff_toInt_lt, ← Int32.toInt_inj, own_k9, own_k32, own_k127, own_k255] at q0 q1 q2; omega)), own_fv, if_neg ((own_al c1).1 (by have q0 := hc19_73; have q1 := hc31_100; have q2 := hc38_102; simp only [Int32.lt_iff_toInt_lt, ← Int32.toInt_inj, own_k9, own_k32, own_k127, own_k255] at q0 q1 q2; omega)), own_fv, if_pos ((own_al c2).2 (by have q0 := hc19_107; have q1 := hc25_109; simp only [Int32.lt_iff_toInt_lt, ← Int32.toInt_inj, own_k9, own_k32, own_k127, own_k255] at q0 q1; omega))], N105, rfl⟩
       ·skip
        have G116 : ∀ t, Steps p.tables e below (T105.setTop (mkF m 31 #[rv r0, iv 2, iv c2] [(.int (127 : Int32)), (.int c2)])) t → Steps p.tables e below (s₁.setTop (entryFrame m #[(.ref r0)] 3)) t := by
         intro t kt
         refine G106 _ ?_
         refine XS.icmpYes X105.here hx rfl (pc0 := 19) (pc' := 28) rfl (hb hby d8_19) rfl (flt hc19_107).2.1 (by decide) (by decide) ?_
         refine XS.iloadN X105.here hx rfl (hb hby d8_28) rfl ?_
         refine XS.bipush X105.here hx rfl (hb hby d8_29) ?_
         exact kt
        by_cases hc31_117 : c2 = (127 : Int32)
        ·skip
         obtain ⟨fs, hr, hrun, hended, hW, hsame⟩ := X105.leave (v := some (.int (0 : Int32))) (fun h => by rw [Bd.returns] at h; cases h)
         refine ⟨_, _, G116 _ ?_, hrun, hended, _, _, rfl, ?_, ⟨_, rfl⟩, hW, hsame.mono (by decide) (by decide)⟩
         ·skip
          refine XS.icmpYes X105.here hx rfl (pc0 := 31) (pc' := 41) rfl (hb hby d8_31) rfl (teq hc31_117).1 (by decide) (by decide) ?_
          refine XS.iconst X105.here hx rfl (hb hby d8_41) ?_
          exact retN X105 hx (t := .boolean) Bd.returns (by simp) (hb hby d8_42) hr
         ·show QrmFVL3 Z r0 c0 c1 c2 ta kb cst fv h0 n0 _ T105.heap _
          rw [eh105]
          exact ⟨by rw [own_fv, if_neg ((own_al c0).1 (by have q0 := hc19_5; have q1 := hc31_66; have q2 := hc38_68; simp only [Int32.lt_iff_toInt_lt, ← Int32.toInt_inj, own_k9, own_k32, own_k127, own_k255] at q0 q1 q2; omega)), own_fv, if_neg ((own_al c1).1 (by have q0 := hc19_73; have q1 := hc31_100; have q2 := hc38_102; simp only [Int32.lt_iff_toInt_lt, ← Int32.toInt_inj, own_k9, own_k32, own_k127, own_k255] at q0 q1 q2; omega)), own_fv, if_pos ((own_al c2).2 (by have q0 := hc19_107; have q1 := hc31_117; simp only [Int32.lt_iff_toInt_lt, ← Int32.toInt_inj, own_k9, own_k32, own_k127, own_k255] at q0 q1; omega))], N105, rfl⟩
        ·skip
         have G118 : ∀ t, Steps p.tables e below (T105.setTop (mkF m 38 #[rv r0, iv 2, iv c2] [(.int (255 : Int32)), (.int c2)])) t → Steps p.tables e below (s₁.setTop (entryFrame m #[(.ref r0)] 3)) t := by
          intro t kt
          refine G116 _ ?_
          refine XS.icmpNo X105.here hx rfl (hb hby d8_31) rfl (feq hc31_117).1 ?_
          refine XS.iloadN X105.here hx rfl (hb hby d8_34) rfl ?_
          refine XS.sipush X105.here hx rfl (hb hby d8_35) ?_
          exact kt
         by_cases hc38_119 : (255 : Int32) < c2
         ·skip
          obtain ⟨fs, hr, hrun, hended, hW, hsame⟩ := X105.leave (v := some (.int (0 : Int32))) (fun h => by rw [Bd.returns] at h; cases h)
          refine ⟨_, _, G118 _ ?_, hrun, hended, _, _, rfl, ?_, ⟨_, rfl⟩, hW, hsame.mono (by decide) (by decide)⟩
          ·skip
           refine XS.icmpNo X105.here hx rfl (hb hby d8_38) rfl (tlt hc38_119).2.2.2 ?_
           refine XS.iconst X105.here hx rfl (hb hby d8_41) ?_
           exact retN X105 hx (t := .boolean) Bd.returns (by simp) (hb hby d8_42) hr
          ·show QrmFVL3 Z r0 c0 c1 c2 ta kb cst fv h0 n0 _ T105.heap _
           rw [eh105]
           exact ⟨by rw [own_fv, if_neg ((own_al c0).1 (by have q0 := hc19_5; have q1 := hc31_66; have q2 := hc38_68; simp only [Int32.lt_iff_toInt_lt, ← Int32.toInt_inj, own_k9, own_k32, own_k127, own_k255] at q0 q1 q2; omega)), own_fv, if_neg ((own_al c1).1 (by have q0 := hc19_73; have q1 := hc31_100; have q2 := hc38_102; simp only [Int32.lt_iff_toInt_lt, ← Int32.toInt_inj, own_k9, own_k32, own_k127, own_k255] at q0 q1 q2; omega)), own_fv, if_pos ((own_al c2).2 (by have q0 := hc19_107; have q1 := hc31_117; have q2 := hc38_119; simp only [Int32.lt_iff_toInt_lt, ← Int32.toInt_inj, own_k9, own_k32, own_k127, own_k255] at q0 q1 q2; omega))], N105, rfl⟩
         ·skip
          obtain ⟨cq120, kq120, q120a, q120b, q120c⟩ := isOf hZ eh105 E0
          obtain ⟨_, _, ⟨T120, L120, k120, n120⟩, -, X120, ⟨Lc120, hQ120, l120, y120, z120⟩, st120⟩ := X105.virtualBack hx (y := (⟨"java/lang/String", "length", "()I"⟩ : MethodName)) (z := (⟨"java/lang/String", "length", "()I"⟩ : MethodName)) hown (mvT hZ (hq hw 38 rfl)) (mvT hZ (hq hw 39 rfl)) (notFace_of_selects (args := #[]) (mvT hZ (hq hw 41 rfl))) (mvT hZ (hq hw 41 rfl)) (mvT hZ (hq hw 40 rfl)) (by decide) (backOf (W := 1) (rm9 l Z a0 hw [] r0 (0 : Int32) ta kb (3 : Int32) [(.int (nar .byte (c0.toInt8.toInt32))), (.int (nar .byte (c1.toInt8.toInt32))), (.int (nar .byte (c2.toInt8.toInt32)))] (3 : Int32) cst fv h0 n0 Z0 E0 Fc Fv V0 O0 (by decide) SS) hZ (hq hw 42 rfl) (hq hw 3 rfl) (by decide) (by decide)) q120a q120c (g := (mkF m 4 #[rv r0, iv 3, iv c2] [(.ref r0), (.int (3 : Int32))])) rfl (by rw [hml]; rfl) (Steps.refl _) (argsL := []) (rest := [(.int (3 : Int32))]) (lenOf pd_14 rfl) rfl (by show 2 * 0 + _ ≤ _; exact Nat.le_of_eq rfl) (hb hby d8_4) (fun _ _ => ⟨rfl, eh105, (by decide : 0 + 0 ≤ _), (by decide : 0 + 0 ≤ _)⟩)
          dsimp only [Pt.U, Pt.locs, Pt.cells, Pt.slots] at X120 l120 y120 z120 st120 hQ120
          subst l120 y120 z120
          obtain ⟨rfl, N120q, eh120⟩ := hQ120
          have N120 := Fr.app N105 N120q
          have G121 : ∀ t, Steps p.tables e below (T120.setTop (mkF m 7 #[rv r0, iv 3, iv c2] [(.int (3 : Int32)), (.int (3 : Int32))])) t → Steps p.tables e below (s₁.setTop (entryFrame m #[(.ref r0)] 3)) t := by
           intro t kt
           refine G118 _ ?_
           refine XS.icmpYes X105.here hx rfl (pc0 := 38) (pc' := 43) rfl (hb hby d8_38) rfl (flt hc38_119).2.2.2 (by decide) (by decide) ?_
           refine XS.iinc X105.here hx rfl (hb hby d8_43) rfl (l' := #[rv r0, iv 3, iv c2]) rfl ?_
           refine XS.goto X105.here hx rfl (pc0 := 46) (pc' := 2) rfl (hb hby d8_46) (by decide) (by decide) ?_
           refine XS.iloadN X105.here hx rfl (hb hby d8_2) rfl ?_
           refine XS.aloadN X105.here hx rfl (hb hby d8_3) rfl rfl ?_
           refine st120.trans ?_
           exact kt
          obtain ⟨fs, hr, hrun, hended, hW, hsame⟩ := X120.leave (v := some (.int (1 : Int32))) (fun h => by rw [Bd.returns] at h; cases h)
          refine ⟨_, _, G121 _ ?_, hrun, hended, _, _, rfl, ?_, ⟨_, rfl⟩, hW, hsame.mono (by decide) (by decide)⟩
          ·skip
           refine XS.icmpYes X120.here hx rfl (pc0 := 7) (pc' := 49) rfl (hb hby d8_7) rfl (flt (by decide)).2.1 (by decide) (by decide) ?_
           refine XS.iconst X120.here hx rfl (hb hby d8_49) ?_
           exact retN X120 hx (t := .boolean) Bd.returns (by simp) (hb hby d8_50) hr
          ·show QrmFVL3 Z r0 c0 c1 c2 ta kb cst fv h0 n0 _ T120.heap _
           rw [eh120]
           exact ⟨by rw [own_fv, if_neg ((own_al c0).1 (by have q0 := hc19_5; have q1 := hc31_66; have q2 := hc38_68; simp only [Int32.lt_iff_toInt_lt, ← Int32.toInt_inj, own_k9, own_k32, own_k127, own_k255] at q0 q1 q2; omega)), own_fv, if_neg ((own_al c1).1 (by have q0 := hc19_73; have q1 := hc31_100; have q2 := hc38_102; simp only [Int32.lt_iff_toInt_lt, ← Int32.toInt_inj, own_k9, own_k32, own_k127, own_k255] at q0 q1 q2; omega)), own_fv, if_neg ((own_al c2).1 (by have q0 := hc19_107; have q1 := hc31_117; have q2 := hc38_119; simp only [Int32.lt_iff_toInt_lt, ← Int32.toInt_inj, own_k9, own_k32, own_k127, own_k255] at q0 q1 q2; omega)), own_fv], N120, rfl⟩
def QrmFVU3 (Z : State) (r0 : Addr) (c0 c1 c2 : Int32) (ta : Addr) (kb : ClassId) (cst : Int32) (fv : Value) (h0 : Heap) (n0 : Nat) (v : Option Value) (h : Heap) (L : List Loc) : Prop := v = some (.int (own_fv [c0, c1, c2])) ∧ Fr n0 L ∧ h = h0
theorem ef_rmFVU3 (m : MethodId) (x0 : Addr) : entryFrame m #[(.ref x0)] 3 = mkF m 0 #[.val (.ref x0), .unset, .unset] [] := by first | (simp [entryFrame, mkF, argsToLocals, Value.category]; done) | rfl
set_option maxRecDepth 65536 in
set_option maxHeartbeats 40000000 in
theorem rmFVU3 (l : Launch) (Z : State) (a0 : Array Value) (hw : ∀ d ∈ tables_1, d.before a0 Z = true) (ws : List Jvm.Cond) (r0 : Addr) (c0 c1 c2 : Int32) (ta : Addr) (kb : ClassId) (cst : Int32) (fv : Value) (h0 : Heap) (n0 : Nat) (Z0 : n0 ≤ h0.size) (E0 : Exa Z h0 r0 "java/lang/String") (Fc : Fld Z h0 r0 "java/lang/String" "coder" "B" (.int (1 : Int32))) (Fv : Fld Z h0 r0 "java/lang/String" "value" "[B" (.ref ta)) (V0 : Arv Z h0 ta kb .byte (6 : Int32) [(.int (nar .byte ((c0 >>> ((0 : Int32) &&& 31)).toInt8.toInt32))), (.int (nar .byte ((c0 >>> ((8 : Int32) &&& 31)).toInt8.toInt32))), (.int (nar .byte ((c1 >>> ((0 : Int32) &&& 31)).toInt8.toInt32))), (.int (nar .byte ((c1 >>> ((8 : Int32) &&& 31)).toInt8.toInt32))), (.int (nar .byte ((c2 >>> ((0 : Int32) &&& 31)).toInt8.toInt32))), (.int (nar .byte ((c2 >>> ((8 : Int32) &&& 31)).toInt8.toInt32)))] (.int (0 : Int32))) (O0 : Old Z n0 h0) (hb0 : 0 ≤ c0.toInt ∧ c0.toInt ≤ 65535) (hb1 : 0 ≤ c1.toInt ∧ c1.toInt ≤ 65535) (hb2 : 0 ≤ c2.toInt ∧ c2.toInt ≤ 65535) (SS : Sts Z cst fv) :
  MetFree l (⟨"com/example/wary_bearer/warybearer/http/Http1Reader", "isFieldValue", "(Ljava/lang/String;)Z"⟩ : MethodName) (head1 (Jvm.Cond.code (⟨"com/example/wary_bearer/warybearer/http/Http1Reader", "isFieldValue", "(Ljava/lang/String;)Z"⟩ : MethodName) prog_13_method_11_code 3 (some .boolean) :: ws) ({ frames := 5, cells := 0, slots := 0, locals := 66 } : Room)) (fun a U => a = #[(.ref r0)] ∧ Z.Warmed39 U.vm ∧ U.heap = h0) (fun _ _ _ _ _ => True) (fun _ U o U' => ∃ v L, o = .returned v ∧ QrmFVU3 Z r0 c0 c1 c2 ta kb cst fv h0 n0 v U'.heap L ∧ FrameEnd U o U' L ({ frames := 5, cells := 0, slots := 0, locals := 66 } : Room).cells ({ frames := 5, cells := 0, slots := 0, locals := 66 } : Room).slots) := by
 refine MetFree.of_bodySF (plainFor_of_name pnc_com_example_wary_bearer_warybearer_http_Http1Reader) hisR ?_
 intro p e s m args below meth c s₁ Bd hml0 hP hK
 obtain ⟨rfl, hZ, hh⟩ := hP
 have hx := Bd.exec
 have hby := Bd.bytes
 have hml : c.maxLocals = 3 := hml0
 have hown : s.vm.findClass "com/example/wary_bearer/warybearer/http/Http1Reader" = some m.cls := findClass_of_methodNamed Bd.named
 have hnm := (name_of_methodNamed Bd.named Bd.method).1
 have X0 : Stand p l e ({ frames := 5, cells := 0, slots := 0, locals := 66 } : Room) s m #[(.ref r0)] below meth c s₁ [] 0 0 := Stand.of_body Bd
 have e0 : s₁.heap = h0 := by rw [← hh, Bd.state]; rfl
 have N0 := Fr.nil n0
 have kp0 : Keep h0 h0 [] := Keep.refl _ _
 have G0 : ∀ t, Steps p.tables e below (s₁.setTop (mkF m 0 #[rv r0, .unset, .unset] [])) t → Steps p.tables e below (s₁.setTop (entryFrame m #[(.ref r0)] 3)) t := fun t k => castTop (ef_rmFVU3 m r0) k
 obtain ⟨cq1, kq1, q1a, q1b, q1c⟩ := isOf hZ e0 E0
 obtain ⟨_, _, ⟨T1, L1, k1, n1⟩, -, X1, ⟨Lc1, hQ1, l1, y1, z1⟩, st1⟩ := X0.virtualBack hx (y := (⟨"java/lang/String", "length", "()I"⟩ : MethodName)) (z := (⟨"java/lang/String", "length", "()I"⟩ : MethodName)) hown (mvT hZ (hq hw 38 rfl)) (mvT hZ (hq hw 39 rfl)) (notFace_of_selects (args := #[]) (mvT hZ (hq hw 41 rfl))) (mvT hZ (hq hw 41 rfl)) (mvT hZ (hq hw 40 rfl)) (by decide) (backOf (W := 1) (rm9 l Z a0 hw [] r0 (1 : Int32) ta kb (6 : Int32) [(.int (nar .byte ((c0 >>> ((0 : Int32) &&& 31)).toInt8.toInt32))), (.int (nar .byte ((c0 >>> ((8 : Int32) &&& 31)).toInt8.toInt32))), (.int (nar .byte ((c1 >>> ((0 : Int32) &&& 31)).toInt8.toInt32))), (.int (nar .byte ((c1 >>> ((8 : Int32) &&& 31)).toInt8.toInt32))), (.int (nar .byte ((c2 >>> ((0 : Int32) &&& 31)).toInt8.toInt32))), (.int (nar .byte ((c2 >>> ((8 : Int32) &&& 31)).toInt8.toInt32)))] (3 : Int32) cst fv h0 n0 Z0 E0 Fc Fv V0 O0 (by decide) SS) hZ (hq hw 42 rfl) (hq hw 3 rfl) (by decide) (by decide)) q1a q1c (g := (mkF m 4 #[rv r0, iv 0, .unset] [(.ref r0), (.int (0 : Int32))])) rfl (by rw [hml]; rfl) (Steps.refl _) (argsL := []) (rest := [(.int (0 : Int32))]) (lenOf pd_14 rfl) rfl (by show 2 * 0 + _ ≤ _; exact Nat.le_of_eq rfl) (hb hby d8_4) (fun _ _ => ⟨rfl, e0, (by decide : 0 + 0 ≤ _), (by decide : 0 + 0 ≤ _)⟩)
 dsimp only [Pt.U, Pt.locs, Pt.cells, Pt.slots] at X1 l1 y1 z1 st1 hQ1
 subst l1 y1 z1
 obtain ⟨rfl, N1q, eh1⟩ := hQ1
 have N1 := Fr.app N0 N1q
 have G2 : ∀ t, Steps p.tables e below (T1.setTop (mkF m 7 #[rv r0, iv 0, .unset] [(.int (3 : Int32)), (.int (0 : Int32))])) t → Steps p.tables e below (s₁.setTop (entryFrame m #[(.ref r0)] 3)) t := by
  intro t kt
  refine G0 _ ?_
  refine XS.iconst X0.here hx rfl (hb hby d8_0) ?_
  refine XS.istoreN X0.here hx rfl (hb hby d8_1) rfl (l' := #[rv r0, iv 0, .unset]) rfl ?_
  refine XS.iloadN X0.here hx rfl (hb hby d8_2) rfl ?_
  refine XS.aloadN X0.here hx rfl (hb hby d8_3) rfl rfl ?_
  refine st1.trans ?_
  exact kt
 obtain ⟨cq3, kq3, q3a, q3b, q3c⟩ := isOf hZ eh1 E0
 obtain ⟨_, _, ⟨T3, L3, k3, n3⟩, -, X3, ⟨Lc3, hQ3, l3, y3, z3⟩, st3⟩ := X1.virtualBack hx (y := (⟨"java/lang/String", "charAt", "(I)C"⟩ : MethodName)) (z := (⟨"java/lang/String", "charAt", "(I)C"⟩ : MethodName)) hown (mvT hZ (hq hw 48 rfl)) (mvT hZ (hq hw 49 rfl)) (notFace_of_selects (args := #[]) (mvT hZ (hq hw 51 rfl))) (mvT hZ (hq hw 51 rfl)) (mvT hZ (hq hw 50 rfl)) (by decide) (backOf (W := 0) (rmChU l Z a0 hw [] r0 (0 : Int32) ta kb (6 : Int32) [(.int (nar .byte ((c0 >>> ((0 : Int32) &&& 31)).toInt8.toInt32))), (.int (nar .byte ((c0 >>> ((8 : Int32) &&& 31)).toInt8.toInt32))), (.int (nar .byte ((c1 >>> ((0 : Int32) &&& 31)).toInt8.toInt32))), (.int (nar .byte ((c1 >>> ((8 : Int32) &&& 31)).toInt8.toInt32))), (.int (nar .byte ((c2 >>> ((0 : Int32) &&& 31)).toInt8.toInt32))), (.int (nar .byte ((c2 >>> ((8 : Int32) &&& 31)).toInt8.toInt32)))] (nar .byte ((c0 >>> ((0 : Int32) &&& 31)).toInt8.toInt32)) (nar .byte ((c0 >>> ((8 : Int32) &&& 31)).toInt8.toInt32)) c0 cst fv h0 n0 Z0 E0 Fc Fv V0 O0 (by decide) (by decide) (by decide) (by decide) rfl rfl (own_utf c0 hb0) SS) hZ (hq hw 52 rfl) (hq hw 3 rfl) (by decide) (by decide)) q3a q3c (g := (mkF m 12 #[rv r0, iv 0, .unset] [(.int (0 : Int32)), (.ref r0)])) rfl (by rw [hml]; rfl) (Steps.refl _) (argsL := [(.int (0 : Int32))]) (rest := []) (lenOf pd_15 rfl) rfl (by show 2 * 0 + _ ≤ _; exact Nat.le_of_eq rfl) (hb hby d8_12) (fun _ _ => ⟨rfl, eh1, (by decide : 0 + 0 ≤ _), (by decide : 0 + 0 ≤ _)⟩)
 dsimp only [Pt.U, Pt.locs, Pt.cells, Pt.slots] at X3 l3 y3 z3 st3 hQ3
 subst l3 y3 z3
 obtain ⟨rfl, N3q, eh3⟩ := hQ3
 have N3 := Fr.app N1 N3q
 have G4 : ∀ t, Steps p.tables e below (T3.setTop (mkF m 19 #[rv r0, iv 0, iv c0] [(.int (32 : Int32)), (.int c0)])) t → Steps p.tables e below (s₁.setTop (entryFrame m #[(.ref r0)] 3)) t := by
  intro t kt
  refine G2 _ ?_
  refine XS.icmpNo X1.here hx rfl (hb hby d8_7) rfl (tlt (by decide)).2.1 ?_
  refine XS.aloadN X1.here hx rfl (hb hby d8_10) rfl rfl ?_
  refine XS.iloadN X1.here hx rfl (hb hby d8_11) rfl ?_
  refine st3.trans ?_
  refine XS.istoreN X3.here hx rfl (hb hby d8_15) rfl (l' := #[rv r0, iv 0, iv c0]) rfl ?_
  refine XS.iloadN X3.here hx rfl (hb hby d8_16) rfl ?_
  refine XS.bipush X3.here hx rfl (hb hby d8_17) ?_
  exact kt
 by_cases hc19_5 : c0 < (32 : Int32)
 ·skip
  have G6 : ∀ t, Steps p.tables e below (T3.setTop (mkF m 25 #[rv r0, iv 0, iv c0] [(.int (9 : Int32)), (.int c0)])) t → Steps p.tables e below (s₁.setTop (entryFrame m #[(.ref r0)] 3)) t := by
   intro t kt
   refine G4 _ ?_
   refine XS.icmpNo X3.here hx rfl (hb hby d8_19) rfl (tlt hc19_5).2.1 ?_
   refine XS.iloadN X3.here hx rfl (hb hby d8_22) rfl ?_
   refine XS.bipush X3.here hx rfl (hb hby d8_23) ?_
   exact kt
  by_cases hc25_7 : c0 = (9 : Int32)
  ·skip
   have G8 : ∀ t, Steps p.tables e below (T3.setTop (mkF m 31 #[rv r0, iv 0, iv c0] [(.int (127 : Int32)), (.int c0)])) t → Steps p.tables e below (s₁.setTop (entryFrame m #[(.ref r0)] 3)) t := by
    intro t kt
    refine G6 _ ?_
    refine XS.icmpNo X3.here hx rfl (hb hby d8_25) rfl (teq hc25_7).2 ?_
    refine XS.iloadN X3.here hx rfl (hb hby d8_28) rfl ?_
    refine XS.bipush X3.here hx rfl (hb hby d8_29) ?_
    exact kt
   by_cases hc31_9 : c0 = (127 : Int32)
   ·skip
    obtain ⟨fs, hr, hrun, hended, hW, hsame⟩ := X3.leave (v := some (.int (0 : Int32))) (fun h => by rw [Bd.returns] at h; cases h)
    refine ⟨_, _, G8 _ ?_, hrun, hended, _, _, rfl, ?_, ⟨_, rfl⟩, hW, hsame.mono (by decide) (by decide)⟩
    ·skip
     refine XS.icmpYes X3.here hx rfl (pc0 := 31) (pc' := 41) rfl (hb hby d8_31) rfl (teq hc31_9).1 (by decide) (by decide) ?_
     refine XS.iconst X3.here hx rfl (hb hby d8_41) ?_
     exact retN X3 hx (t := .boolean) Bd.returns (by simp) (hb hby d8_42) hr
    ·show QrmFVU3 Z r0 c0 c1 c2 ta kb cst fv h0 n0 _ T3.heap _
     rw [eh3]
     exact ⟨by rw [own_fv, if_pos ((own_al c0).2 (by have q0 := hc19_5; have q1 := hc25_7; have q2 := hc31_9; simp only [Int32.lt_iff_toInt_lt, ← Int32.toInt_inj, own_k9, own_k32, own_k127, own_k255] at q0 q1 q2; omega))], N3, rfl⟩
   ·skip
    have G10 : ∀ t, Steps p.tables e below (T3.setTop (mkF m 38 #[rv r0, iv 0, iv c0] [(.int (255 : Int32)), (.int c0)])) t → Steps p.tables e below (s₁.setTop (entryFrame m #[(.ref r0)] 3)) t := by
     intro t kt
     refine G8 _ ?_
     refine XS.icmpNo X3.here hx rfl (hb hby d8_31) rfl (feq hc31_9).1 ?_
     refine XS.iloadN X3.here hx rfl (hb hby d8_34) rfl ?_
     refine XS.sipush X3.here hx rfl (hb hby d8_35) ?_
     exact kt
    by_cases hc38_11 : (255 : Int32) < c0
    ·skip
     obtain ⟨fs, hr, hrun, hended, hW, hsame⟩ := X3.leave (v := some (.int (0 : Int32))) (fun h => by rw [Bd.returns] at h; cases h)
     refine ⟨_, _, G10 _ ?_, hrun, hended, _, _, rfl, ?_, ⟨_, rfl⟩, hW, hsame.mono (by decide) (by decide)⟩
     ·skip
      refine XS.icmpNo X3.here hx rfl (hb hby d8_38) rfl (tlt hc38_11).2.2.2 ?_
      refine XS.iconst X3.here hx rfl (hb hby d8_41) ?_
      exact retN X3 hx (t := .boolean) Bd.returns (by simp) (hb hby d8_42) hr
     ·show QrmFVU3 Z r0 c0 c1 c2 ta kb cst fv h0 n0 _ T3.heap _
      rw [eh3]
      exact ⟨by rw [own_fv, if_pos ((own_al c0).2 (by have q0 := hc19_5; have q1 := hc25_7; have q2 := hc31_9; have q3 := hc38_11; simp only [Int32.lt_iff_toInt_lt, ← Int32.toInt_inj, own_k9, own_k32, own_k127, own_k255] at q0 q1 q2 q3; omega))], N3, rfl⟩
    ·skip
     obtain ⟨cq12, kq12, q12a, q12b, q12c⟩ := isOf hZ eh3 E0
     obtain ⟨_, _, ⟨T12, L12, k12, n12⟩, -, X12, ⟨Lc12, hQ12, l12, y12, z12⟩, st12⟩ := X3.virtualBack hx (y := (⟨"java/lang/String", "length", "()I"⟩ : MethodName)) (z := (⟨"java/lang/String", "length", "()I"⟩ : MethodName)) hown (mvT hZ (hq hw 38 rfl)) (mvT hZ (hq hw 39 rfl)) (notFace_of_selects (args := #[]) (mvT hZ (hq hw 41 rfl))) (mvT hZ (hq hw 41 rfl)) (mvT hZ (hq hw 40 rfl)) (by decide) (backOf (W := 1) (rm9 l Z a0 hw [] r0 (1 : Int32) ta kb (6 : Int32) [(.int (nar .byte ((c0 >>> ((0 : Int32) &&& 31)).toInt8.toInt32))), (.int (nar .byte ((c0 >>> ((8 : Int32) &&& 31)).toInt8.toInt32))), (.int (nar .byte ((c1 >>> ((0 : Int32) &&& 31)).toInt8.toInt32))), (.int (nar .byte ((c1 >>> ((8 : Int32) &&& 31)).toInt8.toInt32))), (.int (nar .byte ((c2 >>> ((0 : Int32) &&& 31)).toInt8.toInt32))), (.int (nar .byte ((c2 >>> ((8 : Int32) &&& 31)).toInt8.toInt32)))] (3 : Int32) cst fv h0 n0 Z0 E0 Fc Fv V0 O0 (by decide) SS) hZ (hq hw 42 rfl) (hq hw 3 rfl) (by decide) (by decide)) q12a q12c (g := (mkF m 4 #[rv r0, iv 1, iv c0] [(.ref r0), (.int (1 : Int32))])) rfl (by rw [hml]; rfl) (Steps.refl _) (argsL := []) (rest := [(.int (1 : Int32))]) (lenOf pd_14 rfl) rfl (by show 2 * 0 + _ ≤ _; exact Nat.le_of_eq rfl) (hb hby d8_4) (fun _ _ => ⟨rfl, eh3, (by decide : 0 + 0 ≤ _), (by decide : 0 + 0 ≤ _)⟩)
     dsimp only [Pt.U, Pt.locs, Pt.cells, Pt.slots] at X12 l12 y12 z12 st12 hQ12
     subst l12 y12 z12
     obtain ⟨rfl, N12q, eh12⟩ := hQ12
     have N12 := Fr.app N3 N12q
     have G13 : ∀ t, Steps p.tables e below (T12.setTop (mkF m 7 #[rv r0, iv 1, iv c0] [(.int (3 : Int32)), (.int (1 : Int32))])) t → Steps p.tables e below (s₁.setTop (entryFrame m #[(.ref r0)] 3)) t := by
      intro t kt
      refine G10 _ ?_
      refine XS.icmpYes X3.here hx rfl (pc0 := 38) (pc' := 43) rfl (hb hby d8_38) rfl (flt hc38_11).2.2.2 (by decide) (by decide) ?_
      refine XS.iinc X3.here hx rfl (hb hby d8_43) rfl (l' := #[rv r0, iv 1, iv c0]) rfl ?_
      refine XS.goto X3.here hx rfl (pc0 := 46) (pc' := 2) rfl (hb hby d8_46) (by decide) (by decide) ?_
      show Steps p.tables e below (T3.setTop (mkF m 2 #[rv r0, iv 1, iv c0] [])) _
      refine XS.iloadN X3.here hx rfl (hb hby d8_2) rfl ?_
      refine XS.aloadN X3.here hx rfl (hb hby d8_3) rfl rfl ?_
      refine st12.trans ?_
      exact kt
     obtain ⟨cq14, kq14, q14a, q14b, q14c⟩ := isOf hZ eh12 E0
     obtain ⟨_, _, ⟨T14, L14, k14, n14⟩, -, X14, ⟨Lc14, hQ14, l14, y14, z14⟩, st14⟩ := X12.virtualBack hx (y := (⟨"java/lang/String", "charAt", "(I)C"⟩ : MethodName)) (z := (⟨"java/lang/String", "charAt", "(I)C"⟩ : MethodName)) hown (mvT hZ (hq hw 48 rfl)) (mvT hZ (hq hw 49 rfl)) (notFace_of_selects (args := #[]) (mvT hZ (hq hw 51 rfl))) (mvT hZ (hq hw 51 rfl)) (mvT hZ (hq hw 50 rfl)) (by decide) (backOf (W := 0) (rmChU l Z a0 hw [] r0 (1 : Int32) ta kb (6 : Int32) [(.int (nar .byte ((c0 >>> ((0 : Int32) &&& 31)).toInt8.toInt32))), (.int (nar .byte ((c0 >>> ((8 : Int32) &&& 31)).toInt8.toInt32))), (.int (nar .byte ((c1 >>> ((0 : Int32) &&& 31)).toInt8.toInt32))), (.int (nar .byte ((c1 >>> ((8 : Int32) &&& 31)).toInt8.toInt32))), (.int (nar .byte ((c2 >>> ((0 : Int32) &&& 31)).toInt8.toInt32))), (.int (nar .byte ((c2 >>> ((8 : Int32) &&& 31)).toInt8.toInt32)))] (nar .byte ((c1 >>> ((0 : Int32) &&& 31)).toInt8.toInt32)) (nar .byte ((c1 >>> ((8 : Int32) &&& 31)).toInt8.toInt32)) c1 cst fv h0 n0 Z0 E0 Fc Fv V0 O0 (by decide) (by decide) (by decide) (by decide) rfl rfl (own_utf c1 hb1) SS) hZ (hq hw 52 rfl) (hq hw 3 rfl) (by decide) (by decide)) q14a q14c (g := (mkF m 12 #[rv r0, iv 1, iv c0] [(.int (1 : Int32)), (.ref r0)])) rfl (by rw [hml]; rfl) (Steps.refl _) (argsL := [(.int (1 : Int32))]) (rest := []) (lenOf pd_15 rfl) rfl (by show 2 * 0 + _ ≤ _; exact Nat.le_of_eq rfl) (hb hby d8_12) (fun _ _ => ⟨rfl, eh12, (by decide : 0 + 0 ≤ _), (by decide : 0 + 0 ≤ _)⟩)
     dsimp only [Pt.U, Pt.locs, Pt.cells, Pt.slots] at X14 l14 y14 z14 st14 hQ14
     subst l14 y14 z14
     obtain ⟨rfl, N14q, eh14⟩ := hQ14
     have N14 := Fr.app N12 N14q
     have G15 : ∀ t, Steps p.tables e below (T14.setTop (mkF m 19 #[rv r0, iv 1, iv c1] [(.int (32 : Int32)), (.int c1)])) t → Steps p.tables e below (s₁.setTop (entryFrame m #[(.ref r0)] 3)) t := by
      intro t kt
      refine G13 _ ?_
      refine XS.icmpNo X12.here hx rfl (hb hby d8_7) rfl (tlt (by decide)).2.1 ?_
      refine XS.aloadN X12.here hx rfl (hb hby d8_10) rfl rfl ?_
      refine XS.iloadN X12.here hx rfl (hb hby d8_11) rfl ?_
      refine st14.trans ?_
      refine XS.istoreN X14.here hx rfl (hb hby d8_15) rfl (l' := #[rv r0, iv 1, iv c1]) rfl ?_
      refine XS.iloadN X14.here hx rfl (hb hby d8_16) rfl ?_
      refine XS.bipush X14.here hx rfl (hb hby d8_17) ?_
      exact kt
     by_cases hc19_16 : c1 < (32 : Int32)
     ·skip
      have G17 : ∀ t, Steps p.tables e below (T14.setTop (mkF m 25 #[rv r0, iv 1, iv c1] [(.int (9 : Int32)), (.int c1)])) t → Steps p.tables e below (s₁.setTop (entryFrame m #[(.ref r0)] 3)) t := by
       intro t kt
       refine G15 _ ?_
       refine XS.icmpNo X14.here hx rfl (hb hby d8_19) rfl (tlt hc19_16).2.1 ?_
       refine XS.iloadN X14.here hx rfl (hb hby d8_22) rfl ?_
       refine XS.bipush X14.here hx rfl (hb hby d8_23) ?_
       exact kt
      by_cases hc25_18 : c1 = (9 : Int32)
      ·skip
       have G19 : ∀ t, Steps p.tables e below (T14.setTop (mkF m 31 #[rv r0, iv 1, iv c1] [(.int (127 : Int32)), (.int c1)])) t → Steps p.tables e below (s₁.setTop (entryFrame m #[(.ref r0)] 3)) t := by
        intro t kt
        refine G17 _ ?_
        refine XS.icmpNo X14.here hx rfl (hb hby d8_25) rfl (teq hc25_18).2 ?_
        refine XS.iloadN X14.here hx rfl (hb hby d8_28) rfl ?_
        refine XS.bipush X14.here hx rfl (hb hby d8_29) ?_
        exact kt
       by_cases hc31_20 : c1 = (127 : Int32)
       ·skip
        obtain ⟨fs, hr, hrun, hended, hW, hsame⟩ := X14.leave (v := some (.int (0 : Int32))) (fun h => by rw [Bd.returns] at h; cases h)
        refine ⟨_, _, G19 _ ?_, hrun, hended, _, _, rfl, ?_, ⟨_, rfl⟩, hW, hsame.mono (by decide) (by decide)⟩
        ·skip
         refine XS.icmpYes X14.here hx rfl (pc0 := 31) (pc' := 41) rfl (hb hby d8_31) rfl (teq hc31_20).1 (by decide) (by decide) ?_
         refine XS.iconst X14.here hx rfl (hb hby d8_41) ?_
         exact retN X14 hx (t := .boolean) Bd.returns (by simp) (hb hby d8_42) hr
        ·show QrmFVU3 Z r0 c0 c1 c2 ta kb cst fv h0 n0 _ T14.heap _
         rw [eh14]
         exact ⟨by rw [own_fv, if_neg ((own_al c0).1 (by have q0 := hc19_5; have q1 := hc25_7; have q2 := hc31_9; have q3 := hc38_11; simp only [Int32.lt_iff_toInt_lt, ← Int32.toInt_inj, own_k9, own_k32, own_k127, own_k255] at q0 q1 q2 q3; omega)), own_fv, if_pos ((own_al c1).2 (by have q0 := hc19_16; have q1 := hc25_18; have q2 := hc31_20; simp only [Int32.lt_iff_toInt_lt, ← Int32.toInt_inj, own_k9, own_k32, own_k127, own_k255] at q0 q1 q2; omega))], N14, rfl⟩
       ·skip
        have G21 : ∀ t, Steps p.tables e below (T14.setTop (mkF m 38 #[rv r0, iv 1, iv c1] [(.int (255 : Int32)), (.int c1)])) t → Steps p.tables e below (s₁.setTop (entryFrame m #[(.ref r0)] 3)) t := by
         intro t kt
         refine G19 _ ?_
         refine XS.icmpNo X14.here hx rfl (hb hby d8_31) rfl (feq hc31_20).1 ?_
         refine XS.iloadN X14.here hx rfl (hb hby d8_34) rfl ?_
         refine XS.sipush X14.here hx rfl (hb hby d8_35) ?_
         exact kt
        by_cases hc38_22 : (255 : Int32) < c1
        ·skip
         obtain ⟨fs, hr, hrun, hended, hW, hsame⟩ := X14.leave (v := some (.int (0 : Int32))) (fun h => by rw [Bd.returns] at h; cases h)
         refine ⟨_, _, G21 _ ?_, hrun, hended, _, _, rfl, ?_, ⟨_, rfl⟩, hW, hsame.mono (by decide) (by decide)⟩
         ·skip
          refine XS.icmpNo X14.here hx rfl (hb hby d8_38) rfl (tlt hc38_22).2.2.2 ?_
          refine XS.iconst X14.here hx rfl (hb hby d8_41) ?_
          exact retN X14 hx (t := .boolean) Bd.returns (by simp) (hb hby d8_42) hr
         ·show QrmFVU3 Z r0 c0 c1 c2 ta kb cst fv h0 n0 _ T14.heap _
          rw [eh14]
          exact ⟨by rw [own_fv, if_neg ((own_al c0).1 (by have q0 := hc19_5; have q1 := hc25_7; have q2 := hc31_9; have q3 := hc38_11; simp only [Int32.lt_iff_toInt_lt, ← Int32.toInt_inj, own_k9, own_k32, own_k127, own_k255] at q0 q1 q2 q3; omega)), own_fv, if_pos ((own_al c1).2 (by have q0 := hc19_16; have q1 := hc25_18; have q2 := hc31_20; have q3 := hc38_22; simp only [Int32.lt_iff_toInt_lt, ← Int32.toInt_inj, own_k9, own_k32, own_k127, own_k255] at q0 q1 q2 q3; omega))], N14, rfl⟩
        ·skip
         obtain ⟨cq23, kq23, q23a, q23b, q23c⟩ := isOf hZ eh14 E0
         obtain ⟨_, _, ⟨T23, L23, k23, n23⟩, -, X23, ⟨Lc23, hQ23, l23, y23, z23⟩, st23⟩ := X14.virtualBack hx (y := (⟨"java/lang/String", "length", "()I"⟩ : MethodName)) (z := (⟨"java/lang/String", "length", "()I"⟩ : MethodName)) hown (mvT hZ (hq hw 38 rfl)) (mvT hZ (hq hw 39 rfl)) (notFace_of_selects (args := #[]) (mvT hZ (hq hw 41 rfl))) (mvT hZ (hq hw 41 rfl)) (mvT hZ (hq hw 40 rfl)) (by decide) (backOf (W := 1) (rm9 l Z a0 hw [] r0 (1 : Int32) ta kb (6 : Int32) [(.int (nar .byte ((c0 >>> ((0 : Int32) &&& 31)).toInt8.toInt32))), (.int (nar .byte ((c0 >>> ((8 : Int32) &&& 31)).toInt8.toInt32))), (.int (nar .byte ((c1 >>> ((0 : Int32) &&& 31)).toInt8.toInt32))), (.int (nar .byte ((c1 >>> ((8 : Int32) &&& 31)).toInt8.toInt32))), (.int (nar .byte ((c2 >>> ((0 : Int32) &&& 31)).toInt8.toInt32))), (.int (nar .byte ((c2 >>> ((8 : Int32) &&& 31)).toInt8.toInt32)))] (3 : Int32) cst fv h0 n0 Z0 E0 Fc Fv V0 O0 (by decide) SS) hZ (hq hw 42 rfl) (hq hw 3 rfl) (by decide) (by decide)) q23a q23c (g := (mkF m 4 #[rv r0, iv 2, iv c1] [(.ref r0), (.int (2 : Int32))])) rfl (by rw [hml]; rfl) (Steps.refl _) (argsL := []) (rest := [(.int (2 : Int32))]) (lenOf pd_14 rfl) rfl (by show 2 * 0 + _ ≤ _; exact Nat.le_of_eq rfl) (hb hby d8_4) (fun _ _ => ⟨rfl, eh14, (by decide : 0 + 0 ≤ _), (by decide : 0 + 0 ≤ _)⟩)
         dsimp only [Pt.U, Pt.locs, Pt.cells, Pt.slots] at X23 l23 y23 z23 st23 hQ23
         subst l23 y23 z23
         obtain ⟨rfl, N23q, eh23⟩ := hQ23
         have N23 := Fr.app N14 N23q
         have G24 : ∀ t, Steps p.tables e below (T23.setTop (mkF m 7 #[rv r0, iv 2, iv c1] [(.int (3 : Int32)), (.int (2 : Int32))])) t → Steps p.tables e below (s₁.setTop (entryFrame m #[(.ref r0)] 3)) t := by
          intro t kt
          refine G21 _ ?_
          refine XS.icmpYes X14.here hx rfl (pc0 := 38) (pc' := 43) rfl (hb hby d8_38) rfl (flt hc38_22).2.2.2 (by decide) (by decide) ?_
          refine XS.iinc X14.here hx rfl (hb hby d8_43) rfl (l' := #[rv r0, iv 2, iv c1]) rfl ?_
          refine XS.goto X14.here hx rfl (pc0 := 46) (pc' := 2) rfl (hb hby d8_46) (by decide) (by decide) ?_
          refine XS.iloadN X14.here hx rfl (hb hby d8_2) rfl ?_
          refine XS.aloadN X14.here hx rfl (hb hby d8_3) rfl rfl ?_
          refine st23.trans ?_
          exact kt
         obtain ⟨cq25, kq25, q25a, q25b, q25c⟩ := isOf hZ eh23 E0
         obtain ⟨_, _, ⟨T25, L25, k25, n25⟩, -, X25, ⟨Lc25, hQ25, l25, y25, z25⟩, st25⟩ := X23.virtualBack hx (y := (⟨"java/lang/String", "charAt", "(I)C"⟩ : MethodName)) (z := (⟨"java/lang/String", "charAt", "(I)C"⟩ : MethodName)) hown (mvT hZ (hq hw 48 rfl)) (mvT hZ (hq hw 49 rfl)) (notFace_of_selects (args := #[]) (mvT hZ (hq hw 51 rfl))) (mvT hZ (hq hw 51 rfl)) (mvT hZ (hq hw 50 rfl)) (by decide) (backOf (W := 0) (rmChU l Z a0 hw [] r0 (2 : Int32) ta kb (6 : Int32) [(.int (nar .byte ((c0 >>> ((0 : Int32) &&& 31)).toInt8.toInt32))), (.int (nar .byte ((c0 >>> ((8 : Int32) &&& 31)).toInt8.toInt32))), (.int (nar .byte ((c1 >>> ((0 : Int32) &&& 31)).toInt8.toInt32))), (.int (nar .byte ((c1 >>> ((8 : Int32) &&& 31)).toInt8.toInt32))), (.int (nar .byte ((c2 >>> ((0 : Int32) &&& 31)).toInt8.toInt32))), (.int (nar .byte ((c2 >>> ((8 : Int32) &&& 31)).toInt8.toInt32)))] (nar .byte ((c2 >>> ((0 : Int32) &&& 31)).toInt8.toInt32)) (nar .byte ((c2 >>> ((8 : Int32) &&& 31)).toInt8.toInt32)) c2 cst fv h0 n0 Z0 E0 Fc Fv V0 O0 (by decide) (by decide) (by decide) (by decide) rfl rfl (own_utf c2 hb2) SS) hZ (hq hw 52 rfl) (hq hw 3 rfl) (by decide) (by decide)) q25a q25c (g := (mkF m 12 #[rv r0, iv 2, iv c1] [(.int (2 : Int32)), (.ref r0)])) rfl (by rw [hml]; rfl) (Steps.refl _) (argsL := [(.int (2 : Int32))]) (rest := []) (lenOf pd_15 rfl) rfl (by show 2 * 0 + _ ≤ _; exact Nat.le_of_eq rfl) (hb hby d8_12) (fun _ _ => ⟨rfl, eh23, (by decide : 0 + 0 ≤ _), (by decide : 0 + 0 ≤ _)⟩)
         dsimp only [Pt.U, Pt.locs, Pt.cells, Pt.slots] at X25 l25 y25 z25 st25 hQ25
         subst l25 y25 z25
         obtain ⟨rfl, N25q, eh25⟩ := hQ25
         have N25 := Fr.app N23 N25q
         have G26 : ∀ t, Steps p.tables e below (T25.setTop (mkF m 19 #[rv r0, iv 2, iv c2] [(.int (32 : Int32)), (.int c2)])) t → Steps p.tables e below (s₁.setTop (entryFrame m #[(.ref r0)] 3)) t := by
          intro t kt
          refine G24 _ ?_
          refine XS.icmpNo X23.here hx rfl (hb hby d8_7) rfl (tlt (by decide)).2.1 ?_
          show Steps p.tables e below (T23.setTop (mkF m 10 #[rv r0, iv 2, iv c1] [])) _
          refine XS.aloadN X23.here hx rfl (hb hby d8_10) rfl rfl ?_
          refine XS.iloadN X23.here hx rfl (hb hby d8_11) rfl ?_
          refine st25.trans ?_
          refine XS.istoreN X25.here hx rfl (hb hby d8_15) rfl (l' := #[rv r0, iv 2, iv c2]) rfl ?_
          refine XS.iloadN X25.here hx rfl (hb hby d8_16) rfl ?_
          refine XS.bipush X25.here hx rfl (hb hby d8_17) ?_
          exact kt
         by_cases hc19_27 : c2 < (32 : Int32)
         ·skip
          have G28 : ∀ t, Steps p.tables e below (T25.setTop (mkF m 25 #[rv r0, iv 2, iv c2] [(.int (9 : Int32)), (.int c2)])) t → Steps p.tables e below (s₁.setTop (entryFrame m #[(.ref r0)] 3)) t := by
           intro t kt
           refine G26 _ ?_
           refine XS.icmpNo X25.here hx rfl (hb hby d8_19) rfl (tlt hc19_27).2.1 ?_
           refine XS.iloadN X25.here hx rfl (hb hby d8_22) rfl ?_
           refine XS.bipush X25.here hx rfl (hb hby d8_23) ?_
           exact kt
          by_cases hc25_29 : c2 = (9 : Int32)
          ·skip
           have G30 : ∀ t, Steps p.tables e below (T25.setTop (mkF m 31 #[rv r0, iv 2, iv c2] [(.int (127 : Int32)), (.int c2)])) t → Steps p.tables e below (s₁.setTop (entryFrame m #[(.ref r0)] 3)) t := by
            intro t kt
            refine G28 _ ?_
            refine XS.icmpNo X25.here hx rfl (hb hby d8_25) rfl (teq hc25_29).2 ?_
            refine XS.iloadN X25.here hx rfl (hb hby d8_28) rfl ?_
            refine XS.bipush X25.here hx rfl (hb hby d8_29) ?_
            exact kt
           by_cases hc31_31 : c2 = (127 : Int32)
           ·skip
            obtain ⟨fs, hr, hrun, hended, hW, hsame⟩ := X25.leave (v := some (.int (0 : Int32))) (fun h => by rw [Bd.returns] at h; cases h)
            refine ⟨_, _, G30 _ ?_, hrun, hended, _, _, rfl, ?_, ⟨_, rfl⟩, hW, hsame.mono (by decide) (by decide)⟩
            ·skip
             refine XS.icmpYes X25.here hx rfl (pc0 := 31) (pc' := 41) rfl (hb hby d8_31) rfl (teq hc31_31).1 (by decide) (by decide) ?_
             refine XS.iconst X25.here hx rfl (hb hby d8_41) ?_
             exact retN X25 hx (t := .boolean) Bd.returns (by simp) (hb hby d8_42) hr
            ·show QrmFVU3 Z r0 c0 c1 c2 ta kb cst fv h0 n0 _ T25.heap _
             rw [eh25]
             exact ⟨by rw [own_fv, if_neg ((own_al c0).1 (by have q0 := hc19_5; have q1 := hc25_7; have q2 := hc31_9; have q3 := hc38_11; simp only [Int32.lt_iff_toInt_lt, ← Int32.toInt_inj, own_k9, own_k32, own_k127, own_k255] at q0 q1 q2 q3; omega)), own_fv, if_neg ((own_al c1).1 (by have q0 := hc19_16; have q1 := hc25_18; have q2 := hc31_20; have q3 := hc38_22; simp only [Int32.lt_iff_toInt_lt, ← Int32.toInt_inj, own_k9, own_k32, own_k127, own_k255] at q0 q1 q2 q3; omega)), own_fv, if_pos ((own_al c2).2 (by have q0 := hc19_27; have q1 := hc25_29; have q2 := hc31_31; simp only [Int32.lt_iff_toInt_lt, ← Int32.toInt_inj, own_k9, own_k32, own_k127, own_k255] at q0 q1 q2; omega))], N25, rfl⟩
           ·skip
            have G32 : ∀ t, Steps p.tables e below (T25.setTop (mkF m 38 #[rv r0, iv 2, iv c2] [(.int (255 : Int32)), (.int c2)])) t → Steps p.tables e below (s₁.setTop (entryFrame m #[(.ref r0)] 3)) t := by
             intro t kt
             refine G30 _ ?_
             refine XS.icmpNo X25.here hx rfl (hb hby d8_31) rfl (feq hc31_31).1 ?_
             refine XS.iloadN X25.here hx rfl (hb hby d8_34) rfl ?_
             refine XS.sipush X25.here hx rfl (hb hby d8_35) ?_
             exact kt
            by_cases hc38_33 : (255 : Int32) < c2
            ·skip
             obtain ⟨fs, hr, hrun, hended, hW, hsame⟩ := X25.leave (v := some (.int (0 : Int32))) (fun h => by rw [Bd.returns] at h; cases h)
             refine ⟨_, _, G32 _ ?_, hrun, hended, _, _, rfl, ?_, ⟨_, rfl⟩, hW, hsame.mono (by decide) (by decide)⟩
             ·skip
              refine XS.icmpNo X25.here hx rfl (hb hby d8_38) rfl (tlt hc38_33).2.2.2 ?_
              refine XS.iconst X25.here hx rfl (hb hby d8_41) ?_
              exact retN X25 hx (t := .boolean) Bd.returns (by simp) (hb hby d8_42) hr
             ·show QrmFVU3 Z r0 c0 c1 c2 ta kb cst fv h0 n0 _ T25.heap _
              rw [eh25]
              exact ⟨by rw [own_fv, if_neg ((own_al c0).1 (by have q0 := hc19_5; have q1 := hc25_7; have q2 := hc31_9; have q3 := hc38_11; simp only [Int32.lt_iff_toInt_lt, ← Int32.toInt_inj, own_k9, own_k32, own_k127, own_k255] at q0 q1 q2 q3; omega)), own_fv, if_neg ((own_al c1).1 (by have q0 := hc19_16; have q1 := hc25_18; have q2 := hc31_20; have q3 := hc38_22; simp only [Int32.lt_iff_toInt_lt, ← Int32.toInt_inj, own_k9, own_k32, own_k127, own_k255] at q0 q1 q2 q3; omega)), own_fv, if_pos ((own_al c2).2 (by have q0 := hc19_27; have q1 := hc25_29; have q2 := hc31_31; have q3 := hc38_33; simp only [Int32.lt_iff_toInt_lt, ← Int32.toInt_inj, own_k9, own_k32, own_k127, own_k255] at q0 q1 q2 q3; omega))], N25, rfl⟩
            ·skip
             obtain ⟨cq34, kq34, q34a, q34b, q34c⟩ := isOf hZ eh25 E0
             obtain ⟨_, _, ⟨T34, L34, k34, n34⟩, -, X34, ⟨Lc34, hQ34, l34, y34, z34⟩, st34⟩ := X25.virtualBack hx (y := (⟨"java/lang/String", "length", "()I"⟩ : MethodName)) (z := (⟨"java/lang/String", "length", "()I"⟩ : MethodName)) hown (mvT hZ (hq hw 38 rfl)) (mvT hZ (hq hw 39 rfl)) (notFace_of_selects (args := #[]) (mvT hZ (hq hw 41 rfl))) (mvT hZ (hq hw 41 rfl)) (mvT hZ (hq hw 40 rfl)) (by decide) (backOf (W := 1) (rm9 l Z a0 hw [] r0 (1 : Int32) ta kb (6 : Int32) [(.int (nar .byte ((c0 >>> ((0 : Int32) &&& 31)).toInt8.toInt32))), (.int (nar .byte ((c0 >>> ((8 : Int32) &&& 31)).toInt8.toInt32))), (.int (nar .byte ((c1 >>> ((0 : Int32) &&& 31)).toInt8.toInt32))), (.int (nar .byte ((c1 >>> ((8 : Int32) &&& 31)).toInt8.toInt32))), (.int (nar .byte ((c2 >>> ((0 : Int32) &&& 31)).toInt8.toInt32))), (.int (nar .byte ((c2 >>> ((8 : Int32) &&& 31)).toInt8.toInt32)))] (3 : Int32) cst fv h0 n0 Z0 E0 Fc Fv V0 O0 (by decide) SS) hZ (hq hw 42 rfl) (hq hw 3 rfl) (by decide) (by decide)) q34a q34c (g := (mkF m 4 #[rv r0, iv 3, iv c2] [(.ref r0), (.int (3 : Int32))])) rfl (by rw [hml]; rfl) (Steps.refl _) (argsL := []) (rest := [(.int (3 : Int32))]) (lenOf pd_14 rfl) rfl (by show 2 * 0 + _ ≤ _; exact Nat.le_of_eq rfl) (hb hby d8_4) (fun _ _ => ⟨rfl, eh25, (by decide : 0 + 0 ≤ _), (by decide : 0 + 0 ≤ _)⟩)
             dsimp only [Pt.U, Pt.locs, Pt.cells, Pt.slots] at X34 l34 y34 z34 st34 hQ34
             subst l34 y34 z34
             obtain ⟨rfl, N34q, eh34⟩ := hQ34
             have N34 := Fr.app N25 N34q
             have G35 : ∀ t, Steps p.tables e below (T34.setTop (mkF m 7 #[rv r0, iv 3, iv c2] [(.int (3 : Int32)), (.int (3 : Int32))])) t → Steps p.tables e below (s₁.setTop (entryFrame m #[(.ref r0)] 3)) t := by
              intro t kt
              refine G32 _ ?_
              refine XS.icmpYes X25.here hx rfl (pc0 := 38) (pc' := 43) rfl (hb hby d8_38) rfl (flt hc38_33).2.2.2 (by decide) (by decide) ?_
              refine XS.iinc X25.here hx rfl (hb hby d8_43) rfl (l' := #[rv r0, iv 3, iv c2]) rfl ?_
              refine XS.goto X25.here hx rfl (pc0 := 46) (pc' := 2) rfl (hb hby d8_46) (by decide) (by decide) ?_
              refine XS.iloadN X25.here hx rfl (hb hby d8_2) rfl ?_
              refine XS.aloadN X25.here hx rfl (hb hby d8_3) rfl rfl ?_
              refine st34.trans ?_
              exact kt
             obtain ⟨fs, hr, hrun, hended, hW, hsame⟩ := X34.leave (v := some (.int (1 : Int32))) (fun h => by rw [Bd.returns] at h; cases h)
             refine ⟨_, _, G35 _ ?_, hrun, hended, _, _, rfl, ?_, ⟨_, rfl⟩, hW, hsame.mono (by decide) (by decide)⟩
             ·skip
              refine XS.icmpYes X34.here hx rfl (pc0 := 7) (pc' := 49) rfl (hb hby d8_7) rfl (flt (by decide)).2.1 (by decide) (by decide) ?_
              refine XS.iconst X34.here hx rfl (hb hby d8_49) ?_
              exact retN X34 hx (t := .boolean) Bd.returns (by simp) (hb hby d8_50) hr
             ·show QrmFVU3 Z r0 c0 c1 c2 ta kb cst fv h0 n0 _ T34.heap _
              rw [eh34]
              exact ⟨by rw [own_fv, if_neg ((own_al c0).1 (by have q0 := hc19_5; have q1 := hc25_7; have q2 := hc31_9; have q3 := hc38_11; simp only [Int32.lt_iff_toInt_lt, ← Int32.toInt_inj, own_k9, own_k32, own_k127, own_k255] at q0 q1 q2 q3; omega)), own_fv, if_neg ((own_al c1).1 (by have q0 := hc19_16; have q1 := hc25_18; have q2 := hc31_20; have q3 := hc38_22; simp only [Int32.lt_iff_toInt_lt, ← Int32.toInt_inj, own_k9, own_k32, own_k127, own_k255] at q0 q1 q2 q3; omega)), own_fv, if_neg ((own_al c2).1 (by have q0 := hc19_27; have q1 := hc25_29; have q2 := hc31_31; have q3 := hc38_33; simp only [Int32.lt_iff_toInt_lt, ← Int32.toInt_inj, own_k9, own_k32, own_k127, own_k255] at q0 q1 q2 q3; omega)), own_fv], N34, rfl⟩
          ·skip
           obtain ⟨fs, hr, hrun, hended, hW, hsame⟩ := X25.leave (v := some (.int (0 : Int32))) (fun h => by rw [Bd.returns] at h; cases h)
           refine ⟨_, _, G28 _ ?_, hrun, hended, _, _, rfl, ?_, ⟨_, rfl⟩, hW, hsame.mono (by decide) (by decide)⟩
           ·skip
            refine XS.icmpYes X25.here hx rfl (pc0 := 25) (pc' := 41) rfl (hb hby d8_25) rfl (feq hc25_29).2 (by decide) (by decide) ?_
            refine XS.iconst X25.here hx rfl (hb hby d8_41) ?_
            exact retN X25 hx (t := .boolean) Bd.returns (by simp) (hb hby d8_42) hr
           ·show QrmFVU3 Z r0 c0 c1 c2 ta kb cst fv h0 n0 _ T25.heap _
            rw [eh25]
            exact ⟨by rw [own_fv, if_neg ((own_al c0).1 (by have q0 := hc19_5; have q1 := hc25_7; have q2 := hc31_9; have q3 := hc38_11; simp only [Int32.lt_iff_toInt_lt, ← Int32.toInt_inj, own_k9, own_k32, own_k127, own_k255] at q0 q1 q2 q3; omega)), own_fv, if_neg ((own_al c1).1 (by have q0 := hc19_16; have q1 := hc25_18; have q2 := hc31_20; have q3 := hc38_22; simp only [Int32.lt_iff_toInt_lt, ← Int32.toInt_inj, own_k9, own_k32, own_k127, own_k255] at q0 q1 q2 q3; omega)), own_fv, if_pos ((own_al c2).2 (by have q0 := hc19_27; have q1 := hc25_29; simp only [Int32.lt_iff_toInt_lt, ← Int32.toInt_inj, own_k9, own_k32, own_k127, own_k255] at q0 q1; omega))], N25, rfl⟩
         ·skip
          have G36 : ∀ t, Steps p.tables e below (T25.setTop (mkF m 31 #[rv r0, iv 2, iv c2] [(.int (127 : Int32)), (.int c2)])) t → Steps p.tables e below (s₁.setTop (entryFrame m #[(.ref r0)] 3)) t := by
           intro t kt
           refine G26 _ ?_
           refine XS.icmpYes X25.here hx rfl (pc0 := 19) (pc' := 28) rfl (hb hby d8_19) rfl (flt hc19_27).2.1 (by decide) (by decide) ?_
           refine XS.iloadN X25.here hx rfl (hb hby d8_28) rfl ?_
           refine XS.bipush X25.here hx rfl (hb hby d8_29) ?_
           exact kt
          by_cases hc31_37 : c2 = (127 : Int32)
          ·skip
           obtain ⟨fs, hr, hrun, hended, hW, hsame⟩ := X25.leave (v := some (.int (0 : Int32))) (fun h => by rw [Bd.returns] at h; cases h)
           refine ⟨_, _, G36 _ ?_, hrun, hended, _, _, rfl, ?_, ⟨_, rfl⟩, hW, hsame.mono (by decide) (by decide)⟩
           ·skip
            refine XS.icmpYes X25.here hx rfl (pc0 := 31) (pc' := 41) rfl (hb hby d8_31) rfl (teq hc31_37).1 (by decide) (by decide) ?_
            refine XS.iconst X25.here hx rfl (hb hby d8_41) ?_
            exact retN X25 hx (t := .boolean) Bd.returns (by simp) (hb hby d8_42) hr
           ·show QrmFVU3 Z r0 c0 c1 c2 ta kb cst fv h0 n0 _ T25.heap _
            rw [eh25]
            exact ⟨by rw [own_fv, if_neg ((own_al c0).1 (by have q0 := hc19_5; have q1 := hc25_7; have q2 := hc31_9; have q3 := hc38_11; simp only [Int32.lt_iff_toInt_lt, ← Int32.toInt_inj, own_k9, own_k32, own_k127, own_k255] at q0 q1 q2 q3; omega)), own_fv, if_neg ((own_al c1).1 (by have q0 := hc19_16; have q1 := hc25_18; have q2 := hc31_20; have q3 := hc38_22; simp only [Int32.lt_iff_toInt_lt, ← Int32.toInt_inj, own_k9, own_k32, own_k127, own_k255] at q0 q1 q2 q3; omega)), own_fv, if_pos ((own_al c2).2 (by have q0 := hc19_27; have q1 := hc31_37; simp only [Int32.lt_iff_toInt_lt, ← Int32.toInt_inj, own_k9, own_k32, own_k127, own_k255] at q0 q1; omega))], N25, rfl⟩
          ·skip
           have G38 : ∀ t, Steps p.tables e below (T25.setTop (mkF m 38 #[rv r0, iv 2, iv c2] [(.int (255 : Int32)), (.int c2)])) t → Steps p.tables e below (s₁.setTop (entryFrame m #[(.ref r0)] 3)) t := by
            intro t kt
            refine G36 _ ?_
            refine XS.icmpNo X25.here hx rfl (hb hby d8_31) rfl (feq hc31_37).1 ?_
            refine XS.iloadN X25.here hx rfl (hb hby d8_34) rfl ?_
            refine XS.sipush X25.here hx rfl (hb hby d8_35) ?_
            exact kt
           by_cases hc38_39 : (255 : Int32) < c2
           ·skip
            obtain ⟨fs, hr, hrun, hended, hW, hsame⟩ := X25.leave (v := some (.int (0 : Int32))) (fun h => by rw [Bd.returns] at h; cases h)
            refine ⟨_, _, G38 _ ?_, hrun, hended, _, _, rfl, ?_, ⟨_, rfl⟩, hW, hsame.mono (by decide) (by decide)⟩
            ·skip
             refine XS.icmpNo X25.here hx rfl (hb hby d8_38) rfl (tlt hc38_39).2.2.2 ?_
             refine XS.iconst X25.here hx rfl (hb hby d8_41) ?_
             exact retN X25 hx (t := .boolean) Bd.returns (by simp) (hb hby d8_42) hr
            ·show QrmFVU3 Z r0 c0 c1 c2 ta kb cst fv h0 n0 _ T25.heap _
             rw [eh25]
             exact ⟨by rw [own_fv, if_neg ((own_al c0).1 (by have q0 := hc19_5; have q1 := hc25_7; have q2 := hc31_9; have q3 := hc38_11; simp only [Int32.lt_iff_toInt_lt, ← Int32.toInt_inj, own_k9, own_k32, own_k127, own_k255] at q0 q1 q2 q3; omega)), own_fv, if_neg ((own_al c1).1 (by have q0 := hc19_16; have q1 := hc25_18; have q2 := hc31_20; have q3 := hc38_22; simp only [Int32.lt_iff_toInt_lt, ← Int32.toInt_inj, own_k9, own_k32, own_k127, own_k255] at q0 q1 q2 q3; omega)), own_fv, if_pos ((own_al c2).2 (by have q0 := hc19_27; have q1 := hc31_37; have q2 := hc38_39; simp only [Int32.lt_iff_toInt_lt, ← Int32.toInt_inj, own_k9, own_k32, own_k127, own_k255] at q0 q1 q2; omega))], N25, rfl⟩
           ·skip
            obtain ⟨cq40, kq40, q40a, q40b, q40c⟩ := isOf hZ eh25 E0
            obtain ⟨_, _, ⟨T40, L40, k40, n40⟩, -, X40, ⟨Lc40, hQ40, l40, y40, z40⟩, st40⟩ := X25.virtualBack hx (y := (⟨"java/lang/String", "length", "()I"⟩ : MethodName)) (z := (⟨"java/lang/String", "length", "()I"⟩ : MethodName)) hown (mvT hZ (hq hw 38 rfl)) (mvT hZ (hq hw 39 rfl)) (notFace_of_selects (args := #[]) (mvT hZ (hq hw 41 rfl))) (mvT hZ (hq hw 41 rfl)) (mvT hZ (hq hw 40 rfl)) (by decide) (backOf (W := 1) (rm9 l Z a0 hw [] r0 (1 : Int32) ta kb (6 : Int32) [(.int (nar .byte ((c0 >>> ((0 : Int32) &&& 31)).toInt8.toInt32))), (.int (nar .byte ((c0 >>> ((8 : Int32) &&& 31)).toInt8.toInt32))), (.int (nar .byte ((c1 >>> ((0 : Int32) &&& 31)).toInt8.toInt32))), (.int (nar .byte ((c1 >>> ((8 : Int32) &&& 31)).toInt8.toInt32))), (.int (nar .byte ((c2 >>> ((0 : Int32) &&& 31)).toInt8.toInt32))), (.int (nar .byte ((c2 >>> ((8 : Int32) &&& 31)).toInt8.toInt32)))] (3 : Int32) cst fv h0 n0 Z0 E0 Fc Fv V0 O0 (by decide) SS) hZ (hq hw 42 rfl) (hq hw 3 rfl) (by decide) (by decide)) q40a q40c (g := (mkF m 4 #[rv r0, iv 3, iv c2] [(.ref r0), (.int (3 : Int32))])) rfl (by rw [hml]; rfl) (Steps.refl _) (argsL := []) (rest := [(.int (3 : Int32))]) (lenOf pd_14 rfl) rfl (by show 2 * 0 + _ ≤ _; exact Nat.le_of_eq rfl) (hb hby d8_4) (fun _ _ => ⟨rfl, eh25, (by decide : 0 + 0 ≤ _), (by decide : 0 + 0 ≤ _)⟩)
            dsimp only [Pt.U, Pt.locs, Pt.cells, Pt.slots] at X40 l40 y40 z40 st40 hQ40
            subst l40 y40 z40
            obtain ⟨rfl, N40q, eh40⟩ := hQ40
            have N40 := Fr.app N25 N40q
            have G41 : ∀ t, Steps p.tables e below (T40.setTop (mkF m 7 #[rv r0, iv 3, iv c2] [(.int (3 : Int32)), (.int (3 : Int32))])) t → Steps p.tables e below (s₁.setTop (entryFrame m #[(.ref r0)] 3)) t := by
             intro t kt
             refine G38 _ ?_
             refine XS.icmpYes X25.here hx rfl (pc0 := 38) (pc' := 43) rfl (hb hby d8_38) rfl (flt hc38_39).2.2.2 (by decide) (by decide) ?_
             refine XS.iinc X25.here hx rfl (hb hby d8_43) rfl (l' := #[rv r0, iv 3, iv c2]) rfl ?_
             refine XS.goto X25.here hx rfl (pc0 := 46) (pc' := 2) rfl (hb hby d8_46) (by decide) (by decide) ?_
             refine XS.iloadN X25.here hx rfl (hb hby d8_2) rfl ?_
             refine XS.aloadN X25.here hx rfl (hb hby d8_3) rfl rfl ?_
             refine st40.trans ?_
             exact kt
            obtain ⟨fs, hr, hrun, hended, hW, hsame⟩ := X40.leave (v := some (.int (1 : Int32))) (fun h => by rw [Bd.returns] at h; cases h)
            refine ⟨_, _, G41 _ ?_, hrun, hended, _, _, rfl, ?_, ⟨_, rfl⟩, hW, hsame.mono (by decide) (by decide)⟩
            ·skip
             refine XS.icmpYes X40.here hx rfl (pc0 := 7) (pc' := 49) rfl (hb hby d8_7) rfl (flt (by decide)).2.1 (by decide) (by decide) ?_
             refine XS.iconst X40.here hx rfl (hb hby d8_49) ?_
             exact retN X40 hx (t := .boolean) Bd.returns (by simp) (hb hby d8_50) hr
            ·show QrmFVU3 Z r0 c0 c1 c2 ta kb cst fv h0 n0 _ T40.heap _
             rw [eh40]
             exact ⟨by rw [own_fv, if_neg ((own_al c0).1 (by have q0 := hc19_5; have q1 := hc25_7; have q2 := hc31_9; have q3 := hc38_11; simp only [Int32.lt_iff_toInt_lt, ← Int32.toInt_inj, own_k9, own_k32, own_k127, own_k255] at q0 q1 q2 q3; omega)), own_fv, if_neg ((own_al c1).1 (by have q0 := hc19_16; have q1 := hc25_18; have q2 := hc31_20; have q3 := hc38_22; simp only [Int32.lt_iff_toInt_lt, ← Int32.toInt_inj, own_k9, own_k32, own_k127, own_k255] at q0 q1 q2 q3; omega)), own_fv, if_neg ((own_al c2).1 (by have q0 := hc19_27; have q1 := hc31_37; have q2 := hc38_39; simp only [Int32.lt_iff_toInt_lt, ← Int32.toInt_inj, own_k9, own_k32, own_k127, own_k255] at q0 q1 q2; omega)), own_fv], N40, rfl⟩
      ·skip
       obtain ⟨fs, hr, hrun, hended, hW, hsame⟩ := X14.leave (v := some (.int (0 : Int32))) (fun h => by rw [Bd.returns] at h; cases h)
       refine ⟨_, _, G17 _ ?_, hrun, hended, _, _, rfl, ?_, ⟨_, rfl⟩, hW, hsame.mono (by decide) (by decide)⟩
       ·skip
        refine XS.icmpYes X14.here hx rfl (pc0 := 25) (pc' := 41) rfl (hb hby d8_25) rfl (feq hc25_18).2 (by decide) (by decide) ?_
        refine XS.iconst X14.here hx rfl (hb hby d8_41) ?_
        exact retN X14 hx (t := .boolean) Bd.returns (by simp) (hb hby d8_42) hr
       ·show QrmFVU3 Z r0 c0 c1 c2 ta kb cst fv h0 n0 _ T14.heap _
        rw [eh14]
        exact ⟨by rw [own_fv, if_neg ((own_al c0).1 (by have q0 := hc19_5; have q1 := hc25_7; have q2 := hc31_9; have q3 := hc38_11; simp only [Int32.lt_iff_toInt_lt, ← Int32.toInt_inj, own_k9, own_k32, own_k127, own_k255] at q0 q1 q2 q3; omega)), own_fv, if_pos ((own_al c1).2 (by have q0 := hc19_16; have q1 := hc25_18; simp only [Int32.lt_iff_toInt_lt, ← Int32.toInt_inj, own_k9, own_k32, own_k127, own_k255] at q0 q1; omega))], N14, rfl⟩
     ·skip
      have G42 : ∀ t, Steps p.tables e below (T14.setTop (mkF m 31 #[rv r0, iv 1, iv c1] [(.int (127 : Int32)), (.int c1)])) t → Steps p.tables e below (s₁.setTop (entryFrame m #[(.ref r0)] 3)) t := by
       intro t kt
       refine G15 _ ?_
       refine XS.icmpYes X14.here hx rfl (pc0 := 19) (pc' := 28) rfl (hb hby d8_19) rfl (flt hc19_16).2.1 (by decide) (by decide) ?_
       refine XS.iloadN X14.here hx rfl (hb hby d8_28) rfl ?_
       refine XS.bipush X14.here hx rfl (hb hby d8_29) ?_
       exact kt
      by_cases hc31_43 : c1 = (127 : Int32)
      ·skip
       obtain ⟨fs, hr, hrun, hended, hW, hsame⟩ := X14.leave (v := some (.int (0 : Int32))) (fun h => by rw [Bd.returns] at h; cases h)
       refine ⟨_, _, G42 _ ?_, hrun, hended, _, _, rfl, ?_, ⟨_, rfl⟩, hW, hsame.mono (by decide) (by decide)⟩
       ·skip
        refine XS.icmpYes X14.here hx rfl (pc0 := 31) (pc' := 41) rfl (hb hby d8_31) rfl (teq hc31_43).1 (by decide) (by decide) ?_
        refine XS.iconst X14.here hx rfl (hb hby d8_41) ?_
        exact retN X14 hx (t := .boolean) Bd.returns (by simp) (hb hby d8_42) hr
       ·show QrmFVU3 Z r0 c0 c1 c2 ta kb cst fv h0 n0 _ T14.heap _
        rw [eh14]
        exact ⟨by rw [own_fv, if_neg ((own_al c0).1 (by have q0 := hc19_5; have q1 := hc25_7; have q2 := hc31_9; have q3 := hc38_11; simp only [Int32.lt_iff_toInt_lt, ← Int32.toInt_inj, own_k9, own_k32, own_k127, own_k255] at q0 q1 q2 q3; omega)), own_fv, if_pos ((own_al c1).2 (by have q0 := hc19_16; have q1 := hc31_43; simp only [Int32.lt_iff_toInt_lt, ← Int32.toInt_inj, own_k9, own_k32, own_k127, own_k255] at q0 q1; omega))], N14, rfl⟩
      ·skip
       have G44 : ∀ t, Steps p.tables e below (T14.setTop (mkF m 38 #[rv r0, iv 1, iv c1] [(.int (255 : Int32)), (.int c1)])) t → Steps p.tables e below (s₁.setTop (entryFrame m #[(.ref r0)] 3)) t := by
        intro t kt
        refine G42 _ ?_
        refine XS.icmpNo X14.here hx rfl (hb hby d8_31) rfl (feq hc31_43).1 ?_
        refine XS.iloadN X14.here hx rfl (hb hby d8_34) rfl ?_
        refine XS.sipush X14.here hx rfl (hb hby d8_35) ?_
        exact kt
       by_cases hc38_45 : (255 : Int32) < c1
       ·skip
        obtain ⟨fs, hr, hrun, hended, hW, hsame⟩ := X14.leave (v := some (.int (0 : Int32))) (fun h => by rw [Bd.returns] at h; cases h)
        refine ⟨_, _, G44 _ ?_, hrun, hended, _, _, rfl, ?_, ⟨_, rfl⟩, hW, hsame.mono (by decide) (by decide)⟩
        ·skip
         refine XS.icmpNo X14.here hx rfl (hb hby d8_38) rfl (tlt hc38_45).2.2.2 ?_
         refine XS.iconst X14.here hx rfl (hb hby d8_41) ?_
         exact retN X14 hx (t := .boolean) Bd.returns (by simp) (hb hby d8_42) hr
        ·show QrmFVU3 Z r0 c0 c1 c2 ta kb cst fv h0 n0 _ T14.heap _
         rw [eh14]
         exact ⟨by rw [own_fv, if_neg ((own_al c0).1 (by have q0 := hc19_5; have q1 := hc25_7; have q2 := hc31_9; have q3 := hc38_11; simp only [Int32.lt_iff_toInt_lt, ← Int32.toInt_inj, own_k9, own_k32, own_k127, own_k255] at q0 q1 q2 q3; omega)), own_fv, if_pos ((own_al c1).2 (by have q0 := hc19_16; have q1 := hc31_43; have q2 := hc38_45; simp only [Int32.lt_iff_toInt_lt, ← Int32.toInt_inj, own_k9, own_k32, own_k127, own_k255] at q0 q1 q2; omega))], N14, rfl⟩
       ·skip
        obtain ⟨cq46, kq46, q46a, q46b, q46c⟩ := isOf hZ eh14 E0
        obtain ⟨_, _, ⟨T46, L46, k46, n46⟩, -, X46, ⟨Lc46, hQ46, l46, y46, z46⟩, st46⟩ := X14.virtualBack hx (y := (⟨"java/lang/String", "length", "()I"⟩ : MethodName)) (z := (⟨"java/lang/String", "length", "()I"⟩ : MethodName)) hown (mvT hZ (hq hw 38 rfl)) (mvT hZ (hq hw 39 rfl)) (notFace_of_selects (args := #[]) (mvT hZ (hq hw 41 rfl))) (mvT hZ (hq hw 41 rfl)) (mvT hZ (hq hw 40 rfl)) (by decide) (backOf (W := 1) (rm9 l Z a0 hw [] r0 (1 : Int32) ta kb (6 : Int32) [(.int (nar .byte ((c0 >>> ((0 : Int32) &&& 31)).toInt8.toInt32))), (.int (nar .byte ((c0 >>> ((8 : Int32) &&& 31)).toInt8.toInt32))), (.int (nar .byte ((c1 >>> ((0 : Int32) &&& 31)).toInt8.toInt32))), (.int (nar .byte ((c1 >>> ((8 : Int32) &&& 31)).toInt8.toInt32))), (.int (nar .byte ((c2 >>> ((0 : Int32) &&& 31)).toInt8.toInt32))), (.int (nar .byte ((c2 >>> ((8 : Int32) &&& 31)).toInt8.toInt32)))] (3 : Int32) cst fv h0 n0 Z0 E0 Fc Fv V0 O0 (by decide) SS) hZ (hq hw 42 rfl) (hq hw 3 rfl) (by decide) (by decide)) q46a q46c (g := (mkF m 4 #[rv r0, iv 2, iv c1] [(.ref r0), (.int (2 : Int32))])) rfl (by rw [hml]; rfl) (Steps.refl _) (argsL := []) (rest := [(.int (2 : Int32))]) (lenOf pd_14 rfl) rfl (by show 2 * 0 + _ ≤ _; exact Nat.le_of_eq rfl) (hb hby d8_4) (fun _ _ => ⟨rfl, eh14, (by decide : 0 + 0 ≤ _), (by decide : 0 + 0 ≤ _)⟩)
        dsimp only [Pt.U, Pt.locs, Pt.cells, Pt.slots] at X46 l46 y46 z46 st46 hQ46
        subst l46 y46 z46
        obtain ⟨rfl, N46q, eh46⟩ := hQ46
        have N46 := Fr.app N14 N46q
        have G47 : ∀ t, Steps p.tables e below (T46.setTop (mkF m 7 #[rv r0, iv 2, iv c1] [(.int (3 : Int32)), (.int (2 : Int32))])) t → Steps p.tables e below (s₁.setTop (entryFrame m #[(.ref r0)] 3)) t := by
         intro t kt
         refine G44 _ ?_
         refine XS.icmpYes X14.here hx rfl (pc0 := 38) (pc' := 43) rfl (hb hby d8_38) rfl (flt hc38_45).2.2.2 (by decide) (by decide) ?_
         refine XS.iinc X14.here hx rfl (hb hby d8_43) rfl (l' := #[rv r0, iv 2, iv c1]) rfl ?_
         refine XS.goto X14.here hx rfl (pc0 := 46) (pc' := 2) rfl (hb hby d8_46) (by decide) (by decide) ?_
         refine XS.iloadN X14.here hx rfl (hb hby d8_2) rfl ?_
         refine XS.aloadN X14.here hx rfl (hb hby d8_3) rfl rfl ?_
         refine st46.trans ?_
         exact kt
        obtain ⟨cq48, kq48, q48a, q48b, q48c⟩ := isOf hZ eh46 E0
        obtain ⟨_, _, ⟨T48, L48, k48, n48⟩, -, X48, ⟨Lc48, hQ48, l48, y48, z48⟩, st48⟩ := X46.virtualBack hx (y := (⟨"java/lang/String", "charAt", "(I)C"⟩ : MethodName)) (z := (⟨"java/lang/String", "charAt", "(I)C"⟩ : MethodName)) hown (mvT hZ (hq hw 48 rfl)) (mvT hZ (hq hw 49 rfl)) (notFace_of_selects (args := #[]) (mvT hZ (hq hw 51 rfl))) (mvT hZ (hq hw 51 rfl)) (mvT hZ (hq hw 50 rfl)) (by decide) (backOf (W := 0) (rmChU l Z a0 hw [] r0 (2 : Int32) ta kb (6 : Int32) [(.int (nar .byte ((c0 >>> ((0 : Int32) &&& 31)).toInt8.toInt32))), (.int (nar .byte ((c0 >>> ((8 : Int32) &&& 31)).toInt8.toInt32))), (.int (nar .byte ((c1 >>> ((0 : Int32) &&& 31)).toInt8.toInt32))), (.int (nar .byte ((c1 >>> ((8 : Int32) &&& 31)).toInt8.toInt32))), (.int (nar .byte ((c2 >>> ((0 : Int32) &&& 31)).toInt8.toInt32))), (.int (nar .byte ((c2 >>> ((8 : Int32) &&& 31)).toInt8.toInt32)))] (nar .byte ((c2 >>> ((0 : Int32) &&& 31)).toInt8.toInt32)) (nar .byte ((c2 >>> ((8 : Int32) &&& 31)).toInt8.toInt32)) c2 cst fv h0 n0 Z0 E0 Fc Fv V0 O0 (by decide) (by decide) (by decide) (by decide) rfl rfl (own_utf c2 hb2) SS) hZ (hq hw 52 rfl) (hq hw 3 rfl) (by decide) (by decide)) q48a q48c (g := (mkF m 12 #[rv r0, iv 2, iv c1] [(.int (2 : Int32)), (.ref r0)])) rfl (by rw [hml]; rfl) (Steps.refl _) (argsL := [(.int (2 : Int32))]) (rest := []) (lenOf pd_15 rfl) rfl (by show 2 * 0 + _ ≤ _; exact Nat.le_of_eq rfl) (hb hby d8_12) (fun _ _ => ⟨rfl, eh46, (by decide : 0 + 0 ≤ _), (by decide : 0 + 0 ≤ _)⟩)
        dsimp only [Pt.U, Pt.locs, Pt.cells, Pt.slots] at X48 l48 y48 z48 st48 hQ48
        subst l48 y48 z48
        obtain ⟨rfl, N48q, eh48⟩ := hQ48
        have N48 := Fr.app N46 N48q
        have G49 : ∀ t, Steps p.tables e below (T48.setTop (mkF m 19 #[rv r0, iv 2, iv c2] [(.int (32 : Int32)), (.int c2)])) t → Steps p.tables e below (s₁.setTop (entryFrame m #[(.ref r0)] 3)) t := by
         intro t kt
         refine G47 _ ?_
         refine XS.icmpNo X46.here hx rfl (hb hby d8_7) rfl (tlt (by decide)).2.1 ?_
         refine XS.aloadN X46.here hx rfl (hb hby d8_10) rfl rfl ?_
         refine XS.iloadN X46.here hx rfl (hb hby d8_11) rfl ?_
         show Steps p.tables e below (T46.setTop (mkF m 12 #[rv r0, iv 2, iv c1] [(.int (2 : Int32)), (.ref r0)])) _
         refine st48.trans ?_
         refine XS.istoreN X48.here hx rfl (hb hby d8_15) rfl (l' := #[rv r0, iv 2, iv c2]) rfl ?_
         refine XS.iloadN X48.here hx rfl (hb hby d8_16) rfl ?_
         refine XS.bipush X48.here hx rfl (hb hby d8_17) ?_
         exact kt
        by_cases hc19_50 : c2 < (32 : Int32)
        ·skip
         have G51 : ∀ t, Steps p.tables e below (T48.setTop (mkF m 25 #[rv r0, iv 2, iv c2] [(.int (9 : Int32)), (.int c2)])) t → Steps p.tables e below (s₁.setTop (entryFrame m #[(.ref r0)] 3)) t := by
          intro t kt
          refine G49 _ ?_
          refine XS.icmpNo X48.here hx rfl (hb hby d8_19) rfl (tlt hc19_50).2.1 ?_
          refine XS.iloadN X48.here hx rfl (hb hby d8_22) rfl ?_
          refine XS.bipush X48.here hx rfl (hb hby d8_23) ?_
          exact kt
         by_cases hc25_52 : c2 = (9 : Int32)
         ·skip
          have G53 : ∀ t, Steps p.tables e below (T48.setTop (mkF m 31 #[rv r0, iv 2, iv c2] [(.int (127 : Int32)), (.int c2)])) t → Steps p.tables e below (s₁.setTop (entryFrame m #[(.ref r0)] 3)) t := by
           intro t kt
           refine G51 _ ?_
           refine XS.icmpNo X48.here hx rfl (hb hby d8_25) rfl (teq hc25_52).2 ?_
           refine XS.iloadN X48.here hx rfl (hb hby d8_28) rfl ?_
           refine XS.bipush X48.here hx rfl (hb hby d8_29) ?_
           exact kt
          by_cases hc31_54 : c2 = (127 : Int32)
          ·skip
           obtain ⟨fs, hr, hrun, hended, hW, hsame⟩ := X48.leave (v := some (.int (0 : Int32))) (fun h => by rw [Bd.returns] at h; cases h)
           refine ⟨_, _, G53 _ ?_, hrun, hended, _, _, rfl, ?_, ⟨_, rfl⟩, hW, hsame.mono (by decide) (by decide)⟩
           ·skip
            refine XS.icmpYes X48.here hx rfl (pc0 := 31) (pc' := 41) rfl (hb hby d8_31) rfl (teq hc31_54).1 (by decide) (by decide) ?_
            refine XS.iconst X48.here hx rfl (hb hby d8_41) ?_
            exact retN X48 hx (t := .boolean) Bd.returns (by simp) (hb hby d8_42) hr
           ·show QrmFVU3 Z r0 c0 c1 c2 ta kb cst fv h0 n0 _ T48.heap _
            rw [eh48]
            exact ⟨by rw [own_fv, if_neg ((own_al c0).1 (by have q0 := hc19_5; have q1 := hc25_7; have q2 := hc31_9; have q3 := hc38_11; simp only [Int32.lt_iff_toInt_lt, ← Int32.toInt_inj, own_k9, own_k32, own_k127, own_k255] at q0 q1 q2 q3; omega)), own_fv, if_neg ((own_al c1).1 (by have q0 := hc19_16; have q1 := hc31_43; have q2 := hc38_45; simp only [Int32.lt_iff_toInt_lt, ← Int32.toInt_inj, own_k9, own_k32, own_k127, own_k255] at q0 q1 q2; omega)), own_fv, if_pos ((own_al c2).2 (by have q0 := hc19_50; have q1 := hc25_52; have q2 := hc31_54; simp only [Int32.lt_iff_toInt_lt, ← Int32.toInt_inj, own_k9, own_k32, own_k127, own_k255] at q0 q1 q2; omega))], N48, rfl⟩
          ·skip
           have G55 : ∀ t, Steps p.tables e below (T48.setTop (mkF m 38 #[rv r0, iv 2, iv c2] [(.int (255 : Int32)), (.int c2)])) t → Steps p.tables e below (s₁.setTop (entryFrame m #[(.ref r0)] 3)) t := by
            intro t kt
            refine G53 _ ?_
            refine XS.icmpNo X48.here hx rfl (hb hby d8_31) rfl (feq hc31_54).1 ?_
            refine XS.iloadN X48.here hx rfl (hb hby d8_34) rfl ?_
            refine XS.sipush X48.here hx rfl (hb hby d8_35) ?_
            exact kt
           by_cases hc38_56 : (255 : Int32) < c2
           ·skip
            obtain ⟨fs, hr, hrun, hended, hW, hsame⟩ := X48.leave (v := some (.int (0 : Int32))) (fun h => by rw [Bd.returns] at h; cases h)
            refine ⟨_, _, G55 _ ?_, hrun, hended, _, _, rfl, ?_, ⟨_, rfl⟩, hW, hsame.mono (by decide) (by decide)⟩
            ·skip
             refine XS.icmpNo X48.here hx rfl (hb hby d8_38) rfl (tlt hc38_56).2.2.2 ?_
             refine XS.iconst X48.here hx rfl (hb hby d8_41) ?_
             exact retN X48 hx (t := .boolean) Bd.returns (by simp) (hb hby d8_42) hr
            ·show QrmFVU3 Z r0 c0 c1 c2 ta kb cst fv h0 n0 _ T48.heap _
             rw [eh48]
             exact ⟨by rw [own_fv, if_neg ((own_al c0).1 (by have q0 := hc19_5; have q1 := hc25_7; have q2 := hc31_9; have q3 := hc38_11; simp only [Int32.lt_iff_toInt_lt, ← Int32.toInt_inj, own_k9, own_k32, own_k127, own_k255] at q0 q1 q2 q3; omega)), own_fv, if_neg ((own_al c1).1 (by have q0 := hc19_16; have q1 := hc31_43; have q2 := hc38_45; simp only [Int32.lt_iff_toInt_lt, ← Int32.toInt_inj, own_k9, own_k32, own_k127, own_k255] at q0 q1 q2; omega)), own_fv, if_pos ((own_al c2).2 (by have q0 := hc19_50; have q1 := hc25_52; have q2 := hc31_54; have q3 := hc38_56; simp only [Int32.lt_iff_toInt_lt, ← Int32.toInt_inj, own_k9, own_k32, own_k127, own_k255] at q0 q1 q2 q3; omega))], N48, rfl⟩
           ·skip
            obtain ⟨cq57, kq57, q57a, q57b, q57c⟩ := isOf hZ eh48 E0
            obtain ⟨_, _, ⟨T57, L57, k57, n57⟩, -, X57, ⟨Lc57, hQ57, l57, y57, z57⟩, st57⟩ := X48.virtualBack hx (y := (⟨"java/lang/String", "length", "()I"⟩ : MethodName)) (z := (⟨"java/lang/String", "length", "()I"⟩ : MethodName)) hown (mvT hZ (hq hw 38 rfl)) (mvT hZ (hq hw 39 rfl)) (notFace_of_selects (args := #[]) (mvT hZ (hq hw 41 rfl))) (mvT hZ (hq hw 41 rfl)) (mvT hZ (hq hw 40 rfl)) (by decide) (backOf (W := 1) (rm9 l Z a0 hw [] r0 (1 : Int32) ta kb (6 : Int32) [(.int (nar .byte ((c0 >>> ((0 : Int32) &&& 31)).toInt8.toInt32))), (.int (nar .byte ((c0 >>> ((8 : Int32) &&& 31)).toInt8.toInt32))), (.int (nar .byte ((c1 >>> ((0 : Int32) &&& 31)).toInt8.toInt32))), (.int (nar .byte ((c1 >>> ((8 : Int32) &&& 31)).toInt8.toInt32))), (.int (nar .byte ((c2 >>> ((0 : Int32) &&& 31)).toInt8.toInt32))), (.int (nar .byte ((c2 >>> ((8 : Int32) &&& 31)).toInt8.toInt32)))] (3 : Int32) cst fv h0 n0 Z0 E0 Fc Fv V0 O0 (by decide) SS) hZ (hq hw 42 rfl) (hq hw 3 rfl) (by decide) (by decide)) q57a q57c (g := (mkF m 4 #[rv r0, iv 3, iv c2] [(.ref r0), (.int (3 : Int32))])) rfl (by rw [hml]; rfl) (Steps.refl _) (argsL := []) (rest := [(.int (3 : Int32))]) (lenOf pd_14 rfl) rfl (by show 2 * 0 + _ ≤ _; exact Nat.le_of_eq rfl) (hb hby d8_4) (fun _ _ => ⟨rfl, eh48, (by decide : 0 + 0 ≤ _), (by decide : 0 + 0 ≤ _)⟩)
            dsimp only [Pt.U, Pt.locs, Pt.cells, Pt.slots] at X57 l57 y57 z57 st57 hQ57
            subst l57 y57 z57
            obtain ⟨rfl, N57q, eh57⟩ := hQ57
            have N57 := Fr.app N48 N57q
            have G58 : ∀ t, Steps p.tables e below (T57.setTop (mkF m 7 #[rv r0, iv 3, iv c2] [(.int (3 : Int32)), (.int (3 : Int32))])) t → Steps p.tables e below (s₁.setTop (entryFrame m #[(.ref r0)] 3)) t := by
             intro t kt
             refine G55 _ ?_
             refine XS.icmpYes X48.here hx rfl (pc0 := 38) (pc' := 43) rfl (hb hby d8_38) rfl (flt hc38_56).2.2.2 (by decide) (by decide) ?_
             refine XS.iinc X48.here hx rfl (hb hby d8_43) rfl (l' := #[rv r0, iv 3, iv c2]) rfl ?_
             refine XS.goto X48.here hx rfl (pc0 := 46) (pc' := 2) rfl (hb hby d8_46) (by decide) (by decide) ?_
             refine XS.iloadN X48.here hx rfl (hb hby d8_2) rfl ?_
             refine XS.aloadN X48.here hx rfl (hb hby d8_3) rfl rfl ?_
             refine st57.trans ?_
             exact kt
            obtain ⟨fs, hr, hrun, hended, hW, hsame⟩ := X57.leave (v := some (.int (1 : Int32))) (fun h => by rw [Bd.returns] at h; cases h)
            refine ⟨_, _, G58 _ ?_, hrun, hended, _, _, rfl, ?_, ⟨_, rfl⟩, hW, hsame.mono (by decide) (by decide)⟩
            ·skip
             refine XS.icmpYes X57.here hx rfl (pc0 := 7) (pc' := 49) rfl (hb hby d8_7) rfl (flt (by decide)).2.1 (by decide) (by decide) ?_
             refine XS.iconst X57.here hx rfl (hb hby d8_49) ?_
             exact retN X57 hx (t := .boolean) Bd.returns (by simp) (hb hby d8_50) hr
            ·show QrmFVU3 Z r0 c0 c1 c2 ta kb cst fv h0 n0 _ T57.heap _
             rw [eh57]
             exact ⟨by rw [own_fv, if_neg ((own_al c0).1 (by have q0 := hc19_5; have q1 := hc25_7; have q2 := hc31_9; have q3 := hc38_11; simp only [Int32.lt_iff_toInt_lt, ← Int32.toInt_inj, own_k9, own_k32, own_k127, own_k255] at q0 q1 q2 q3; omega)), own_fv, if_neg ((own_al c1).1 (by have q0 := hc19_16; have q1 := hc31_43; have q2 := hc38_45; simp only [Int32.lt_iff_toInt_lt, ← Int32.toInt_inj, own_k9, own_k32, own_k127, own_k255] at q0 q1 q2; omega)), own_fv, if_neg ((own_al c2).1 (by have q0 := hc19_50; have q1 := hc25_52; have q2 := hc31_54; have q3 := hc38_56; simp only [Int32.lt_iff_toInt_lt, ← Int32.toInt_inj, own_k9, own_k32, own_k127, own_k255] at q0 q1 q2 q3; omega)), own_fv], N57, rfl⟩
         ·skip
          obtain ⟨fs, hr, hrun, hended, hW, hsame⟩ := X48.leave (v := some (.int (0 : Int32))) (fun h => by rw [Bd.returns] at h; cases h)
          refine ⟨_, _, G51 _ ?_, hrun, hended, _, _, rfl, ?_, ⟨_, rfl⟩, hW, hsame.mono (by decide) (by decide)⟩
          ·skip
           refine XS.icmpYes X48.here hx rfl (pc0 := 25) (pc' := 41) rfl (hb hby d8_25) rfl (feq hc25_52).2 (by decide) (by decide) ?_
           refine XS.iconst X48.here hx rfl (hb hby d8_41) ?_
           exact retN X48 hx (t := .boolean) Bd.returns (by simp) (hb hby d8_42) hr
          ·show QrmFVU3 Z r0 c0 c1 c2 ta kb cst fv h0 n0 _ T48.heap _
           rw [eh48]
           exact ⟨by rw [own_fv, if_neg ((own_al c0).1 (by have q0 := hc19_5; have q1 := hc25_7; have q2 := hc31_9; have q3 := hc38_11; simp only [Int32.lt_iff_toInt_lt, ← Int32.toInt_inj, own_k9, own_k32, own_k127, own_k255] at q0 q1 q2 q3; omega)), own_fv, if_neg ((own_al c1).1 (by have q0 := hc19_16; have q1 := hc31_43; have q2 := hc38_45; simp only [Int32.lt_iff_toInt_lt, ← Int32.toInt_inj, own_k9, own_k32, own_k127, own_k255] at q0 q1 q2; omega)), own_fv, if_pos ((own_al c2).2 (by have q0 := hc19_50; have q1 := hc25_52; simp only [Int32.lt_iff_toInt_lt, ← Int32.toInt_inj, own_k9, own_k32, own_k127, own_k255] at q0 q1; omega))], N48, rfl⟩
        ·skip
         have G59 : ∀ t, Steps p.tables e below (T48.setTop (mkF m 31 #[rv r0, iv 2, iv c2] [(.int (127 : Int32)), (.int c2)])) t → Steps p.tables e below (s₁.setTop (entryFrame m #[(.ref r0)] 3)) t := by
          intro t kt
          refine G49 _ ?_
          refine XS.icmpYes X48.here hx rfl (pc0 := 19) (pc' := 28) rfl (hb hby d8_19) rfl (flt hc19_50).2.1 (by decide) (by decide) ?_
          refine XS.iloadN X48.here hx rfl (hb hby d8_28) rfl ?_
          refine XS.bipush X48.here hx rfl (hb hby d8_29) ?_
          exact kt
         by_cases hc31_60 : c2 = (127 : Int32)
         ·skip
          obtain ⟨fs, hr, hrun, hended, hW, hsame⟩ := X48.leave (v := some (.int (0 : Int32))) (fun h => by rw [Bd.returns] at h; cases h)
          refine ⟨_, _, G59 _ ?_, hrun, hended, _, _, rfl, ?_, ⟨_, rfl⟩, hW, hsame.mono (by decide) (by decide)⟩
          ·skip
           refine XS.icmpYes X48.here hx rfl (pc0 := 31) (pc' := 41) rfl (hb hby d8_31) rfl (teq hc31_60).1 (by decide) (by decide) ?_
           refine XS.iconst X48.here hx rfl (hb hby d8_41) ?_
           exact retN X48 hx (t := .boolean) Bd.returns (by simp) (hb hby d8_42) hr
          ·show QrmFVU3 Z r0 c0 c1 c2 ta kb cst fv h0 n0 _ T48.heap _
           rw [eh48]
           exact ⟨by rw [own_fv, if_neg ((own_al c0).1 (by have q0 := hc19_5; have q1 := hc25_7; have q2 := hc31_9; have q3 := hc38_11; simp only [Int32.lt_iff_toInt_lt, ← Int32.toInt_inj, own_k9, own_k32, own_k127, own_k255] at q0 q1 q2 q3; omega)), own_fv, if_neg ((own_al c1).1 (by have q0 := hc19_16; have q1 := hc31_43; have q2 := hc38_45; simp only [Int32.lt_iff_toInt_lt, ← Int32.toInt_inj, own_k9, own_k32, own_k127, own_k255] at q0 q1 q2; omega)), own_fv, if_pos ((own_al c2).2 (by have q0 := hc19_50; have q1 := hc31_60; simp only [Int32.lt_iff_toInt_lt, ← Int32.toInt_inj, own_k9, own_k32, own_k127, own_k255] at q0 q1; omega))], N48, rfl⟩
         ·skip
          have G61 : ∀ t, Steps p.tables e below (T48.setTop (mkF m 38 #[rv r0, iv 2, iv c2] [(.int (255 : Int32)), (.int c2)])) t → Steps p.tables e below (s₁.setTop (entryFrame m #[(.ref r0)] 3)) t := by
           intro t kt
           refine G59 _ ?_
           refine XS.icmpNo X48.here hx rfl (hb hby d8_31) rfl (feq hc31_60).1 ?_
           refine XS.iloadN X48.here hx rfl (hb hby d8_34) rfl ?_
           refine XS.sipush X48.here hx rfl (hb hby d8_35) ?_
           exact kt
          by_cases hc38_62 : (255 : Int32) < c2
          ·skip
           obtain ⟨fs, hr, hrun, hended, hW, hsame⟩ := X48.leave (v := some (.int (0 : Int32))) (fun h => by rw [Bd.returns] at h; cases h)
           refine ⟨_, _, G61 _ ?_, hrun, hended, _, _, rfl, ?_, ⟨_, rfl⟩, hW, hsame.mono (by decide) (by decide)⟩
           ·skip
            refine XS.icmpNo X48.here hx rfl (hb hby d8_38) rfl (tlt hc38_62).2.2.2 ?_
            refine XS.iconst X48.here hx rfl (hb hby d8_41) ?_
            exact retN X48 hx (t := .boolean) Bd.returns (by simp) (hb hby d8_42) hr
           ·show QrmFVU3 Z r0 c0 c1 c2 ta kb cst fv h0 n0 _ T48.heap _
            rw [eh48]
            exact ⟨by rw [own_fv, if_neg ((own_al c0).1 (by have q0 := hc19_5; have q1 := hc25_7; have q2 := hc31_9; have q3 := hc38_11; simp only [Int32.lt_iff_toInt_lt, ← Int32.toInt_inj, own_k9, own_k32, own_k127, own_k255] at q0 q1 q2 q3; omega)), own_fv, if_neg ((own_al c1).1 (by have q0 := hc19_16; have q1 := hc31_43; have q2 := hc38_45; simp only [Int32.lt_iff_toInt_lt, ← Int32.toInt_inj, own_k9, own_k32, own_k127, own_k255] at q0 q1 q2; omega)), own_fv, if_pos ((own_al c2).2 (by have q0 := hc19_50; have q1 := hc31_60; have q2 := hc38_62; simp only [Int32.lt_iff_toInt_lt, ← Int32.toInt_inj, own_k9, own_k32, own_k127, own_k255] at q0 q1 q2; omega))], N48, rfl⟩
          ·skip
           obtain ⟨cq63, kq63, q63a, q63b, q63c⟩ := isOf hZ eh48 E0
           obtain ⟨_, _, ⟨T63, L63, k63, n63⟩, -, X63, ⟨Lc63, hQ63, l63, y63, z63⟩, st63⟩ := X48.virtualBack hx (y := (⟨"java/lang/String", "length", "()I"⟩ : MethodName)) (z := (⟨"java/lang/String", "length", "()I"⟩ : MethodName)) hown (mvT hZ (hq hw 38 rfl)) (mvT hZ (hq hw 39 rfl)) (notFace_of_selects (args := #[]) (mvT hZ (hq hw 41 rfl))) (mvT hZ (hq hw 41 rfl)) (mvT hZ (hq hw 40 rfl)) (by decide) (backOf (W := 1) (rm9 l Z a0 hw [] r0 (1 : Int32) ta kb (6 : Int32) [(.int (nar .byte ((c0 >>> ((0 : Int32) &&& 31)).toInt8.toInt32))), (.int (nar .byte ((c0 >>> ((8 : Int32) &&& 31)).toInt8.toInt32))), (.int (nar .byte ((c1 >>> ((0 : Int32) &&& 31)).toInt8.toInt32))), (.int (nar .byte ((c1 >>> ((8 : Int32) &&& 31)).toInt8.toInt32))), (.int (nar .byte ((c2 >>> ((0 : Int32) &&& 31)).toInt8.toInt32))), (.int (nar .byte ((c2 >>> ((8 : Int32) &&& 31)).toInt8.toInt32)))] (3 : Int32) cst fv h0 n0 Z0 E0 Fc Fv V0 O0 (by decide) SS) hZ (hq hw 42 rfl) (hq hw 3 rfl) (by decide) (by decide)) q63a q63c (g := (mkF m 4 #[rv r0, iv 3, iv c2] [(.ref r0), (.int (3 : Int32))])) rfl (by rw [hml]; rfl) (Steps.refl _) (argsL := []) (rest := [(.int (3 : Int32))]) (lenOf pd_14 rfl) rfl (by show 2 * 0 + _ ≤ _; exact Nat.le_of_eq rfl) (hb hby d8_4) (fun _ _ => ⟨rfl, eh48, (by decide : 0 + 0 ≤ _), (by decide : 0 + 0 ≤ _)⟩)
           dsimp only [Pt.U, Pt.locs, Pt.cells, Pt.slots] at X63 l63 y63 z63 st63 hQ63
           subst l63 y63 z63
           obtain ⟨rfl, N63q, eh63⟩ := hQ63
           have N63 := Fr.app N48 N63q
           have G64 : ∀ t, Steps p.tables e below (T63.setTop (mkF m 7 #[rv r0, iv 3, iv c2] [(.int (3 : Int32)), (.int (3 : Int32))])) t → Steps p.tables e below (s₁.setTop (entryFrame m #[(.ref r0)] 3)) t := by
            intro t kt
            refine G61 _ ?_
            refine XS.icmpYes X48.here hx rfl (pc0 := 38) (pc' := 43) rfl (hb hby d8_38) rfl (flt hc38_62).2.2.2 (by decide) (by decide) ?_
            refine XS.iinc X48.here hx rfl (hb hby d8_43) rfl (l' := #[rv r0, iv 3, iv c2]) rfl ?_
            refine XS.goto X48.here hx rfl (pc0 := 46) (pc' := 2) rfl (hb hby d8_46) (by decide) (by decide) ?_
            refine XS.iloadN X48.here hx rfl (hb hby d8_2) rfl ?_
            refine XS.aloadN X48.here hx rfl (hb hby d8_3) rfl rfl ?_
            refine st63.trans ?_
            exact kt
           obtain ⟨fs, hr, hrun, hended, hW, hsame⟩ := X63.leave (v := some (.int (1 : Int32))) (fun h => by rw [Bd.returns] at h; cases h)
           refine ⟨_, _, G64 _ ?_, hrun, hended, _, _, rfl, ?_, ⟨_, rfl⟩, hW, hsame.mono (by decide) (by decide)⟩
           ·skip
            refine XS.icmpYes X63.here hx rfl (pc0 := 7) (pc' := 49) rfl (hb hby d8_7) rfl (flt (by decide)).2.1 (by decide) (by decide) ?_
            refine XS.iconst X63.here hx rfl (hb hby d8_49) ?_
            exact retN X63 hx (t := .boolean) Bd.returns (by simp) (hb hby d8_50) hr
           ·show QrmFVU3 Z r0 c0 c1 c2 ta kb cst fv h0 n0 _ T63.heap _
            rw [eh63]
            exact ⟨by rw [own_fv, if_neg ((own_al c0).1 (by have q0 := hc19_5; have q1 := hc25_7; have q2 := hc31_9; have q3 := hc38_11; simp only [Int32.lt_iff_toInt_lt, ← Int32.toInt_inj, own_k9, own_k32, own_k127, own_k255] at q0 q1 q2 q3; omega)), own_fv, if_neg ((own_al c1).1 (by have q0 := hc19_16; have q1 := hc31_43; have q2 := hc38_45; simp only [Int32.lt_iff_toInt_lt, ← Int32.toInt_inj, own_k9, own_k32, own_k127, own_k255] at q0 q1 q2; omega)), own_fv, if_neg ((own_al c2).1 (by have q0 := hc19_50; have q1 := hc31_60; have q2 := hc38_62; simp only [Int32.lt_iff_toInt_lt, ← Int32.toInt_inj, own_k9, own_k32, own_k127, own_k255] at q0 q1 q2; omega)), own_fv], N63, rfl⟩
  ·skip
   obtain ⟨fs, hr, hrun, hended, hW, hsame⟩ := X3.leave (v := some (.int (0 : Int32))) (fun h => by rw [Bd.returns] at h; cases h)
   refine ⟨_, _, G6 _ ?_, hrun, hended, _, _, rfl, ?_, ⟨_, rfl⟩, hW, hsame.mono (by decide) (by decide)⟩
   ·skip
    refine XS.icmpYes X3.here hx rfl (pc0 := 25) (pc' := 41) rfl (hb hby d8_25) rfl (feq hc25_7).2 (by decide) (by decide) ?_
    refine XS.iconst X3.here hx rfl (hb hby d8_41) ?_
    exact retN X3 hx (t := .boolean) Bd.returns (by simp) (hb hby d8_42) hr
   ·show QrmFVU3 Z r0 c0 c1 c2 ta kb cst fv h0 n0 _ T3.heap _
    rw [eh3]
    exact ⟨by rw [own_fv, if_pos ((own_al c0).2 (by have q0 := hc19_5; have q1 := hc25_7; simp only [Int32.lt_iff_toInt_lt, ← Int32.toInt_inj, own_k9, own_k32, own_k127, own_k255] at q0 q1; omega))], N3, rfl⟩
 ·skip
  have G65 : ∀ t, Steps p.tables e below (T3.setTop (mkF m 31 #[rv r0, iv 0, iv c0] [(.int (127 : Int32)), (.int c0)])) t → Steps p.tables e below (s₁.setTop (entryFrame m #[(.ref r0)] 3)) t := by
   intro t kt
   refine G4 _ ?_
   refine XS.icmpYes X3.here hx rfl (pc0 := 19) (pc' := 28) rfl (hb hby d8_19) rfl (flt hc19_5).2.1 (by decide) (by decide) ?_
   refine XS.iloadN X3.here hx rfl (hb hby d8_28) rfl ?_
   refine XS.bipush X3.here hx rfl (hb hby d8_29) ?_
   exact kt
  by_cases hc31_66 : c0 = (127 : Int32)
  ·skip
   obtain ⟨fs, hr, hrun, hended, hW, hsame⟩ := X3.leave (v := some (.int (0 : Int32))) (fun h => by rw [Bd.returns] at h; cases h)
   refine ⟨_, _, G65 _ ?_, hrun, hended, _, _, rfl, ?_, ⟨_, rfl⟩, hW, hsame.mono (by decide) (by decide)⟩
   ·skip
    refine XS.icmpYes X3.here hx rfl (pc0 := 31) (pc' := 41) rfl (hb hby d8_31) rfl (teq hc31_66).1 (by decide) (by decide) ?_
    refine XS.iconst X3.here hx rfl (hb hby d8_41) ?_
    exact retN X3 hx (t := .boolean) Bd.returns (by simp) (hb hby d8_42) hr
   ·show QrmFVU3 Z r0 c0 c1 c2 ta kb cst fv h0 n0 _ T3.heap _
    rw [eh3]
    exact ⟨by rw [own_fv, if_pos ((own_al c0).2 (by have q0 := hc19_5; have q1 := hc31_66; simp only [Int32.lt_iff_toInt_lt, ← Int32.toInt_inj, own_k9, own_k32, own_k127, own_k255] at q0 q1; omega))], N3, rfl⟩
  ·skip
   have G67 : ∀ t, Steps p.tables e below (T3.setTop (mkF m 38 #[rv r0, iv 0, iv c0] [(.int (255 : Int32)), (.int c0)])) t → Steps p.tables e below (s₁.setTop (entryFrame m #[(.ref r0)] 3)) t := by
    intro t kt
    refine G65 _ ?_
    refine XS.icmpNo X3.here hx rfl (hb hby d8_31) rfl (feq hc31_66).1 ?_
    refine XS.iloadN X3.here hx rfl (hb hby d8_34) rfl ?_
    refine XS.sipush X3.here hx rfl (hb hby d8_35) ?_
    exact kt
   by_cases hc38_68 : (255 : Int32) < c0
   ·skip
    obtain ⟨fs, hr, hrun, hended, hW, hsame⟩ := X3.leave (v := some (.int (0 : Int32))) (fun h => by rw [Bd.returns] at h; cases h)
    refine ⟨_, _, G67 _ ?_, hrun, hended, _, _, rfl, ?_, ⟨_, rfl⟩, hW, hsame.mono (by decide) (by decide)⟩
    ·skip
     refine XS.icmpNo X3.here hx rfl (hb hby d8_38) rfl (tlt hc38_68).2.2.2 ?_
     refine XS.iconst X3.here hx rfl (hb hby d8_41) ?_
     exact retN X3 hx (t := .boolean) Bd.returns (by simp) (hb hby d8_42) hr
    ·show QrmFVU3 Z r0 c0 c1 c2 ta kb cst fv h0 n0 _ T3.heap _
     rw [eh3]
     exact ⟨by rw [own_fv, if_pos ((own_al c0).2 (by have q0 := hc19_5; have q1 := hc31_66; have q2 := hc38_68; simp only [Int32.lt_iff_toInt_lt, ← Int32.toInt_inj, own_k9, own_k32, own_k127, own_k255] at q0 q1 q2; omega))], N3, rfl⟩
   ·skip
    obtain ⟨cq69, kq69, q69a, q69b, q69c⟩ := isOf hZ eh3 E0
    obtain ⟨_, _, ⟨T69, L69, k69, n69⟩, -, X69, ⟨Lc69, hQ69, l69, y69, z69⟩, st69⟩ := X3.virtualBack hx (y := (⟨"java/lang/String", "length", "()I"⟩ : MethodName)) (z := (⟨"java/lang/String", "length", "()I"⟩ : MethodName)) hown (mvT hZ (hq hw 38 rfl)) (mvT hZ (hq hw 39 rfl)) (notFace_of_selects (args := #[]) (mvT hZ (hq hw 41 rfl))) (mvT hZ (hq hw 41 rfl)) (mvT hZ (hq hw 40 rfl)) (by decide) (backOf (W := 1) (rm9 l Z a0 hw [] r0 (1 : Int32) ta kb (6 : Int32) [(.int (nar .byte ((c0 >>> ((0 : Int32) &&& 31)).toInt8.toInt32))), (.int (nar .byte ((c0 >>> ((8 : Int32) &&& 31)).toInt8.toInt32))), (.int (nar .byte ((c1 >>> ((0 : Int32) &&& 31)).toInt8.toInt32))), (.int (nar .byte ((c1 >>> ((8 : Int32) &&& 31)).toInt8.toInt32))), (.int (nar .byte ((c2 >>> ((0 : Int32) &&& 31)).toInt8.toInt32))), (.int (nar .byte ((c2 >>> ((8 : Int32) &&& 31)).toInt8.toInt32)))] (3 : Int32) cst fv h0 n0 Z0 E0 Fc Fv V0 O0 (by decide) SS) hZ (hq hw 42 rfl) (hq hw 3 rfl) (by decide) (by decide)) q69a q69c (g := (mkF m 4 #[rv r0, iv 1, iv c0] [(.ref r0), (.int (1 : Int32))])) rfl (by rw [hml]; rfl) (Steps.refl _) (argsL := []) (rest := [(.int (1 : Int32))]) (lenOf pd_14 rfl) rfl (by show 2 * 0 + _ ≤ _; exact Nat.le_of_eq rfl) (hb hby d8_4) (fun _ _ => ⟨rfl, eh3, (by decide : 0 + 0 ≤ _), (by decide : 0 + 0 ≤ _)⟩)
    dsimp only [Pt.U, Pt.locs, Pt.cells, Pt.slots] at X69 l69 y69 z69 st69 hQ69
    subst l69 y69 z69
    obtain ⟨rfl, N69q, eh69⟩ := hQ69
    have N69 := Fr.app N3 N69q
    have G70 : ∀ t, Steps p.tables e below (T69.setTop (mkF m 7 #[rv r0, iv 1, iv c0] [(.int (3 : Int32)), (.int (1 : Int32))])) t → Steps p.tables e below (s₁.setTop (entryFrame m #[(.ref r0)] 3)) t := by
     intro t kt
     refine G67 _ ?_
     refine XS.icmpYes X3.here hx rfl (pc0 := 38) (pc' := 43) rfl (hb hby d8_38) rfl (flt hc38_68).2.2.2 (by decide) (by decide) ?_
     refine XS.iinc X3.here hx rfl (hb hby d8_43) rfl (l' := #[rv r0, iv 1, iv c0]) rfl ?_
     refine XS.goto X3.here hx rfl (pc0 := 46) (pc' := 2) rfl (hb hby d8_46) (by decide) (by decide) ?_
     refine XS.iloadN X3.here hx rfl (hb hby d8_2) rfl ?_
     refine XS.aloadN X3.here hx rfl (hb hby d8_3) rfl rfl ?_
     show Steps p.tables e below (T3.setTop (mkF m 4 #[rv r0, iv 1, iv c0] [(.ref r0), (.int (1 : Int32))])) _
     refine st69.trans ?_
     exact kt
    obtain ⟨cq71, kq71, q71a, q71b, q71c⟩ := isOf hZ eh69 E0
    obtain ⟨_, _, ⟨T71, L71, k71, n71⟩, -, X71, ⟨Lc71, hQ71, l71, y71, z71⟩, st71⟩ := X69.virtualBack hx (y := (⟨"java/lang/String", "charAt", "(I)C"⟩ : MethodName)) (z := (⟨"java/lang/String", "charAt", "(I)C"⟩ : MethodName)) hown (mvT hZ (hq hw 48 rfl)) (mvT hZ (hq hw 49 rfl)) (notFace_of_selects (args := #[]) (mvT hZ (hq hw 51 rfl))) (mvT hZ (hq hw 51 rfl)) (mvT hZ (hq hw 50 rfl)) (by decide) (backOf (W := 0) (rmChU l Z a0 hw [] r0 (1 : Int32) ta kb (6 : Int32) [(.int (nar .byte ((c0 >>> ((0 : Int32) &&& 31)).toInt8.toInt32))), (.int (nar .byte ((c0 >>> ((8 : Int32) &&& 31)).toInt8.toInt32))), (.int (nar .byte ((c1 >>> ((0 : Int32) &&& 31)).toInt8.toInt32))), (.int (nar .byte ((c1 >>> ((8 : Int32) &&& 31)).toInt8.toInt32))), (.int (nar .byte ((c2 >>> ((0 : Int32) &&& 31)).toInt8.toInt32))), (.int (nar .byte ((c2 >>> ((8 : Int32) &&& 31)).toInt8.toInt32)))] (nar .byte ((c1 >>> ((0 : Int32) &&& 31)).toInt8.toInt32)) (nar .byte ((c1 >>> ((8 : Int32) &&& 31)).toInt8.toInt32)) c1 cst fv h0 n0 Z0 E0 Fc Fv V0 O0 (by decide) (by decide) (by decide) (by decide) rfl rfl (own_utf c1 hb1) SS) hZ (hq hw 52 rfl) (hq hw 3 rfl) (by decide) (by decide)) q71a q71c (g := (mkF m 12 #[rv r0, iv 1, iv c0] [(.int (1 : Int32)), (.ref r0)])) rfl (by rw [hml]; rfl) (Steps.refl _) (argsL := [(.int (1 : Int32))]) (rest := []) (lenOf pd_15 rfl) rfl (by show 2 * 0 + _ ≤ _; exact Nat.le_of_eq rfl) (hb hby d8_12) (fun _ _ => ⟨rfl, eh69, (by decide : 0 + 0 ≤ _), (by decide : 0 + 0 ≤ _)⟩)
    dsimp only [Pt.U, Pt.locs, Pt.cells, Pt.slots] at X71 l71 y71 z71 st71 hQ71
    subst l71 y71 z71
    obtain ⟨rfl, N71q, eh71⟩ := hQ71
    have N71 := Fr.app N69 N71q
    have G72 : ∀ t, Steps p.tables e below (T71.setTop (mkF m 19 #[rv r0, iv 1, iv c1] [(.int (32 : Int32)), (.int c1)])) t → Steps p.tables e below (s₁.setTop (entryFrame m #[(.ref r0)] 3)) t := by
     intro t kt
     refine G70 _ ?_
     refine XS.icmpNo X69.here hx rfl (hb hby d8_7) rfl (tlt (by decide)).2.1 ?_
     refine XS.aloadN X69.here hx rfl (hb hby d8_10) rfl rfl ?_
     refine XS.iloadN X69.here hx rfl (hb hby d8_11) rfl ?_
     refine st71.trans ?_
     refine XS.istoreN X71.here hx rfl (hb hby d8_15) rfl (l' := #[rv r0, iv 1, iv c1]) rfl ?_
     refine XS.iloadN X71.here hx rfl (hb hby d8_16) rfl ?_
     refine XS.bipush X71.here hx rfl (hb hby d8_17) ?_
     exact kt
    by_cases hc19_73 : c1 < (32 : Int32)
    ·skip
     have G74 : ∀ t, Steps p.tables e below (T71.setTop (mkF m 25 #[rv r0, iv 1, iv c1] [(.int (9 : Int32)), (.int c1)])) t → Steps p.tables e below (s₁.setTop (entryFrame m #[(.ref r0)] 3)) t := by
      intro t kt
      refine G72 _ ?_
      refine XS.icmpNo X71.here hx rfl (hb hby d8_19) rfl (tlt hc19_73).2.1 ?_
      refine XS.iloadN X71.here hx rfl (hb hby d8_22) rfl ?_
      refine XS.bipush X71.here hx rfl (hb hby d8_23) ?_
      exact kt
     by_cases hc25_75 : c1 = (9 : Int32)
     ·skip
      have G76 : ∀ t, Steps p.tables e below (T71.setTop (mkF m 31 #[rv r0, iv 1, iv c1] [(.int (127 : Int32)), (.int c1)])) t → Steps p.tables e below (s₁.setTop (entryFrame m #[(.ref r0)] 3)) t := by
       intro t kt
       refine G74 _ ?_
       refine XS.icmpNo X71.here hx rfl (hb hby d8_25) rfl (teq hc25_75).2 ?_
       refine XS.iloadN X71.here hx rfl (hb hby d8_28) rfl ?_
       refine XS.bipush X71.here hx rfl (hb hby d8_29) ?_
       exact kt
      by_cases hc31_77 : c1 = (127 : Int32)
      ·skip
       obtain ⟨fs, hr, hrun, hended, hW, hsame⟩ := X71.leave (v := some (.int (0 : Int32))) (fun h => by rw [Bd.returns] at h; cases h)
       refine ⟨_, _, G76 _ ?_, hrun, hended, _, _, rfl, ?_, ⟨_, rfl⟩, hW, hsame.mono (by decide) (by decide)⟩
       ·skip
        refine XS.icmpYes X71.here hx rfl (pc0 := 31) (pc' := 41) rfl (hb hby d8_31) rfl (teq hc31_77).1 (by decide) (by decide) ?_
        refine XS.iconst X71.here hx rfl (hb hby d8_41) ?_
        exact retN X71 hx (t := .boolean) Bd.returns (by simp) (hb hby d8_42) hr
       ·show QrmFVU3 Z r0 c0 c1 c2 ta kb cst fv h0 n0 _ T71.heap _
        rw [eh71]
        exact ⟨by rw [own_fv, if_neg ((own_al c0).1 (by have q0 := hc19_5; have q1 := hc31_66; have q2 := hc38_68; simp only [Int32.lt_iff_toInt_lt, ← Int32.toInt_inj, own_k9, own_k32, own_k127, own_k255] at q0 q1 q2; omega)), own_fv, if_pos ((own_al c1).2 (by have q0 := hc19_73; have q1 := hc25_75; have q2 := hc31_77; simp only [Int32.lt_iff_toInt_lt, ← Int32.toInt_inj, own_k9, own_k32, own_k127, own_k255] at q0 q1 q2; omega))], N71, rfl⟩
      ·skip
       have G78 : ∀ t, Steps p.tables e below (T71.setTop (mkF m 38 #[rv r0, iv 1, iv c1] [(.int (255 : Int32)), (.int c1)])) t → Steps p.tables e below (s₁.setTop (entryFrame m #[(.ref r0)] 3)) t := by
        intro t kt
        refine G76 _ ?_
        refine XS.icmpNo X71.here hx rfl (hb hby d8_31) rfl (feq hc31_77).1 ?_
        refine XS.iloadN X71.here hx rfl (hb hby d8_34) rfl ?_
        refine XS.sipush X71.here hx rfl (hb hby d8_35) ?_
        exact kt
       by_cases hc38_79 : (255 : Int32) < c1
       ·skip
        obtain ⟨fs, hr, hrun, hended, hW, hsame⟩ := X71.leave (v := some (.int (0 : Int32))) (fun h => by rw [Bd.returns] at h; cases h)
        refine ⟨_, _, G78 _ ?_, hrun, hended, _, _, rfl, ?_, ⟨_, rfl⟩, hW, hsame.mono (by decide) (by decide)⟩
        ·skip
         refine XS.icmpNo X71.here hx rfl (hb hby d8_38) rfl (tlt hc38_79).2.2.2 ?_
         refine XS.iconst X71.here hx rfl (hb hby d8_41) ?_
         exact retN X71 hx (t := .boolean) Bd.returns (by simp) (hb hby d8_42) hr
        ·show QrmFVU3 Z r0 c0 c1 c2 ta kb cst fv h0 n0 _ T71.heap _
         rw [eh71]
         exact ⟨by rw [own_fv, if_neg ((own_al c0).1 (by have q0 := hc19_5; have q1 := hc31_66; have q2 := hc38_68; simp only [Int32.lt_iff_toInt_lt, ← Int32.toInt_inj, own_k9, own_k32, own_k127, own_k255] at q0 q1 q2; omega)), own_fv, if_pos ((own_al c1).2 (by have q0 := hc19_73; have q1 := hc25_75; have q2 := hc31_77; have q3 := hc38_79; simp only [Int32.lt_iff_toInt_lt, ← Int32.toInt_inj, own_k9, own_k32, own_k127, own_k255] at q0 q1 q2 q3; omega))], N71, rfl⟩
       ·skip
        obtain ⟨cq80, kq80, q80a, q80b, q80c⟩ := isOf hZ eh71 E0
        obtain ⟨_, _, ⟨T80, L80, k80, n80⟩, -, X80, ⟨Lc80, hQ80, l80, y80, z80⟩, st80⟩ := X71.virtualBack hx (y := (⟨"java/lang/String", "length", "()I"⟩ : MethodName)) (z := (⟨"java/lang/String", "length", "()I"⟩ : MethodName)) hown (mvT hZ (hq hw 38 rfl)) (mvT hZ (hq hw 39 rfl)) (notFace_of_selects (args := #[]) (mvT hZ (hq hw 41 rfl))) (mvT hZ (hq hw 41 rfl)) (mvT hZ (hq hw 40 rfl)) (by decide) (backOf (W := 1) (rm9 l Z a0 hw [] r0 (1 : Int32) ta kb (6 : Int32) [(.int (nar .byte ((c0 >>> ((0 : Int32) &&& 31)).toInt8.toInt32))), (.int (nar .byte ((c0 >>> ((8 : Int32) &&& 31)).toInt8.toInt32))), (.int (nar .byte ((c1 >>> ((0 : Int32) &&& 31)).toInt8.toInt32))), (.int (nar .byte ((c1 >>> ((8 : Int32) &&& 31)).toInt8.toInt32))), (.int (nar .byte ((c2 >>> ((0 : Int32) &&& 31)).toInt8.toInt32))), (.int (nar .byte ((c2 >>> ((8 : Int32) &&& 31)).toInt8.toInt32)))] (3 : Int32) cst fv h0 n0 Z0 E0 Fc Fv V0 O0 (by decide) SS) hZ (hq hw 42 rfl) (hq hw 3 rfl) (by decide) (by decide)) q80a q80c (g := (mkF m 4 #[rv r0, iv 2, iv c1] [(.ref r0), (.int (2 : Int32))])) rfl (by rw [hml]; rfl) (Steps.refl _) (argsL := []) (rest := [(.int (2 : Int32))]) (lenOf pd_14 rfl) rfl (by show 2 * 0 + _ ≤ _; exact Nat.le_of_eq rfl) (hb hby d8_4) (fun _ _ => ⟨rfl, eh71, (by decide : 0 + 0 ≤ _), (by decide : 0 + 0 ≤ _)⟩)
        dsimp only [Pt.U, Pt.locs, Pt.cells, Pt.slots] at X80 l80 y80 z80 st80 hQ80
        subst l80 y80 z80
        obtain ⟨rfl, N80q, eh80⟩ := hQ80
        have N80 := Fr.app N71 N80q
        have G81 : ∀ t, Steps p.tables e below (T80.setTop (mkF m 7 #[rv r0, iv 2, iv c1] [(.int (3 : Int32)), (.int (2 : Int32))])) t → Steps p.tables e below (s₁.setTop (entryFrame m #[(.ref r0)] 3)) t := by
         intro t kt
         refine G78 _ ?_
         refine XS.icmpYes X71.here hx rfl (pc0 := 38) (pc' := 43) rfl (hb hby d8_38) rfl (flt hc38_79).2.2.2 (by decide) (by decide) ?_
         refine XS.iinc X71.here hx rfl (hb hby d8_43) rfl (l' := #[rv r0, iv 2, iv c1]) rfl ?_
         refine XS.goto X71.here hx rfl (pc0 := 46) (pc' := 2) rfl (hb hby d8_46) (by decide) (by decide) ?_
         refine XS.iloadN X71.here hx rfl (hb hby d8_2) rfl ?_
         refine XS.aloadN X71.here hx rfl (hb hby d8_3) rfl rfl ?_
         refine st80.trans ?_
         exact kt
        obtain ⟨cq82, kq82, q82a, q82b, q82c⟩ := isOf hZ eh80 E0
        obtain ⟨_, _, ⟨T82, L82, k82, n82⟩, -, X82, ⟨Lc82, hQ82, l82, y82, z82⟩, st82⟩ := X80.virtualBack hx (y := (⟨"java/lang/String", "charAt", "(I)C"⟩ : MethodName)) (z := (⟨"java/lang/String", "charAt", "(I)C"⟩ : MethodName)) hown (mvT hZ (hq hw 48 rfl)) (mvT hZ (hq hw 49 rfl)) (notFace_of_selects (args := #[]) (mvT hZ (hq hw 51 rfl))) (mvT hZ (hq hw 51 rfl)) (mvT hZ (hq hw 50 rfl)) (by decide) (backOf (W := 0) (rmChU l Z a0 hw [] r0 (2 : Int32) ta kb (6 : Int32) [(.int (nar .byte ((c0 >>> ((0 : Int32) &&& 31)).toInt8.toInt32))), (.int (nar .byte ((c0 >>> ((8 : Int32) &&& 31)).toInt8.toInt32))), (.int (nar .byte ((c1 >>> ((0 : Int32) &&& 31)).toInt8.toInt32))), (.int (nar .byte ((c1 >>> ((8 : Int32) &&& 31)).toInt8.toInt32))), (.int (nar .byte ((c2 >>> ((0 : Int32) &&& 31)).toInt8.toInt32))), (.int (nar .byte ((c2 >>> ((8 : Int32) &&& 31)).toInt8.toInt32)))] (nar .byte ((c2 >>> ((0 : Int32) &&& 31)).toInt8.toInt32)) (nar .byte ((c2 >>> ((8 : Int32) &&& 31)).toInt8.toInt32)) c2 cst fv h0 n0 Z0 E0 Fc Fv V0 O0 (by decide) (by decide) (by decide) (by decide) rfl rfl (own_utf c2 hb2) SS) hZ (hq hw 52 rfl) (hq hw 3 rfl) (by decide) (by decide)) q82a q82c (g := (mkF m 12 #[rv r0, iv 2, iv c1] [(.int (2 : Int32)), (.ref r0)])) rfl (by rw [hml]; rfl) (Steps.refl _) (argsL := [(.int (2 : Int32))]) (rest := []) (lenOf pd_15 rfl) rfl (by show 2 * 0 + _ ≤ _; exact Nat.le_of_eq rfl) (hb hby d8_12) (fun _ _ => ⟨rfl, eh80, (by decide : 0 + 0 ≤ _), (by decide : 0 + 0 ≤ _)⟩)
        dsimp only [Pt.U, Pt.locs, Pt.cells, Pt.slots] at X82 l82 y82 z82 st82 hQ82
        subst l82 y82 z82
        obtain ⟨rfl, N82q, eh82⟩ := hQ82
        have N82 := Fr.app N80 N82q
        have G83 : ∀ t, Steps p.tables e below (T82.setTop (mkF m 19 #[rv r0, iv 2, iv c2] [(.int (32 : Int32)), (.int c2)])) t → Steps p.tables e below (s₁.setTop (entryFrame m #[(.ref r0)] 3)) t := by
         intro t kt
         refine G81 _ ?_
         refine XS.icmpNo X80.here hx rfl (hb hby d8_7) rfl (tlt (by decide)).2.1 ?_
         refine XS.aloadN X80.here hx rfl (hb hby d8_10) rfl rfl ?_
         refine XS.iloadN X80.here hx rfl (hb hby d8_11) rfl ?_
         show Steps p.tables e below (T80.setTop (mkF m 12 #[rv r0, iv 2, iv c1] [(.int (2 : Int32)), (.ref r0)])) _
         refine st82.trans ?_
         refine XS.istoreN X82.here hx rfl (hb hby d8_15) rfl (l' := #[rv r0, iv 2, iv c2]) rfl ?_
         refine XS.iloadN X82.here hx rfl (hb hby d8_16) rfl ?_
         refine XS.bipush X82.here hx rfl (hb hby d8_17) ?_
         exact kt
        by_cases hc19_84 : c2 < (32 : Int32)
        ·skip
         have G85 : ∀ t, Steps p.tables e below (T82.setTop (mkF m 25 #[rv r0, iv 2, iv c2] [(.int (9 : Int32)), (.int c2)])) t → Steps p.tables e below (s₁.setTop (entryFrame m #[(.ref r0)] 3)) t := by
          intro t kt
          refine G83 _ ?_
          refine XS.icmpNo X82.here hx rfl (hb hby d8_19) rfl (tlt hc19_84).2.1 ?_
          refine XS.iloadN X82.here hx rfl (hb hby d8_22) rfl ?_
          refine XS.bipush X82.here hx rfl (hb hby d8_23) ?_
          exact kt
         by_cases hc25_86 : c2 = (9 : Int32)
         ·skip
          have G87 : ∀ t, Steps p.tables e below (T82.setTop (mkF m 31 #[rv r0, iv 2, iv c2] [(.int (127 : Int32)), (.int c2)])) t → Steps p.tables e below (s₁.setTop (entryFrame m #[(.ref r0)] 3)) t := by
           intro t kt
           refine G85 _ ?_
           refine XS.icmpNo X82.here hx rfl (hb hby d8_25) rfl (teq hc25_86).2 ?_
           refine XS.iloadN X82.here hx rfl (hb hby d8_28) rfl ?_
           refine XS.bipush X82.here hx rfl (hb hby d8_29) ?_
           exact kt
          by_cases hc31_88 : c2 = (127 : Int32)
          ·skip
           obtain ⟨fs, hr, hrun, hended, hW, hsame⟩ := X82.leave (v := some (.int (0 : Int32))) (fun h => by rw [Bd.returns] at h; cases h)
           refine ⟨_, _, G87 _ ?_, hrun, hended, _, _, rfl, ?_, ⟨_, rfl⟩, hW, hsame.mono (by decide) (by decide)⟩
           ·skip
            refine XS.icmpYes X82.here hx rfl (pc0 := 31) (pc' := 41) rfl (hb hby d8_31) rfl (teq hc31_88).1 (by decide) (by decide) ?_
            refine XS.iconst X82.here hx rfl (hb hby d8_41) ?_
            exact retN X82 hx (t := .boolean) Bd.returns (by simp) (hb hby d8_42) hr
           ·show QrmFVU3 Z r0 c0 c1 c2 ta kb cst fv h0 n0 _ T82.heap _
            rw [eh82]
            exact ⟨by rw [own_fv, if_neg ((own_al c0).1 (by have q0 := hc19_5; have q1 := hc31_66; have q2 := hc38_68; simp only [Int32.lt_iff_toInt_lt, ← Int32.toInt_inj, own_k9, own_k32, own_k127, own_k255] at q0 q1 q2; omega)), own_fv, if_neg ((own_al c1).1 (by have q0 := hc19_73; have q1 := hc25_75; have q2 := hc31_77; have q3 := hc38_79; simp only [Int32.lt_iff_toInt_lt, ← Int32.toInt_inj, own_k9, own_k32, own_k127, own_k255] at q0 q1 q2 q3; omega)), own_fv, if_pos ((own_al c2).2 (by have q0 := hc19_84; have q1 := hc25_86; have q2 := hc31_88; simp only [Int32.lt_iff_toInt_lt, ← Int32.toInt_inj, own_k9, own_k32, own_k127, own_k255] at q0 q1 q2; omega))], N82, rfl⟩
          ·skip
           have G89 : ∀ t, Steps p.tables e below (T82.setTop (mkF m 38 #[rv r0, iv 2, iv c2] [(.int (255 : Int32)), (.int c2)])) t → Steps p.tables e below (s₁.setTop (entryFrame m #[(.ref r0)] 3)) t := by
            intro t kt
            refine G87 _ ?_
            refine XS.icmpNo X82.here hx rfl (hb hby d8_31) rfl (feq hc31_88).1 ?_
            refine XS.iloadN X82.here hx rfl (hb hby d8_34) rfl ?_
            refine XS.sipush X82.here hx rfl (hb hby d8_35) ?_
            exact kt
           by_cases hc38_90 : (255 : Int32) < c2
           ·skip
            obtain ⟨fs, hr, hrun, hended, hW, hsame⟩ := X82.leave (v := some (.int (0 : Int32))) (fun h => by rw [Bd.returns] at h; cases h)
            refine ⟨_, _, G89 _ ?_, hrun, hended, _, _, rfl, ?_, ⟨_, rfl⟩, hW, hsame.mono (by decide) (by decide)⟩
            ·skip
             refine XS.icmpNo X82.here hx rfl (hb hby d8_38) rfl (tlt hc38_90).2.2.2 ?_
             refine XS.iconst X82.here hx rfl (hb hby d8_41) ?_
             exact retN X82 hx (t := .boolean) Bd.returns (by simp) (hb hby d8_42) hr
            ·show QrmFVU3 Z r0 c0 c1 c2 ta kb cst fv h0 n0 _ T82.heap _
             rw [eh82]
             exact ⟨by rw [own_fv, if_neg ((own_al c0).1 (by have q0 := hc19_5; have q1 := hc31_66; have q2 := hc38_68; simp only [Int32.lt_iff_toInt_lt, ← Int32.toInt_inj, own_k9, own_k32, own_k127, own_k255] at q0 q1 q2; omega)), own_fv, if_neg ((own_al c1).1 (by have q0 := hc19_73; have q1 := hc25_75; have q2 := hc31_77; have q3 := hc38_79; simp only [Int32.lt_iff_toInt_lt, ← Int32.toInt_inj, own_k9, own_k32, own_k127, own_k255] at q0 q1 q2 q3; omega)), own_fv, if_pos ((own_al c2).2 (by have q0 := hc19_84; have q1 := hc25_86; have q2 := hc31_88; have q3 := hc38_90; simp only [Int32.lt_iff_toInt_lt, ← Int32.toInt_inj, own_k9, own_k32, own_k127, own_k255] at q0 q1 q2 q3; omega))], N82, rfl⟩
           ·skip
            obtain ⟨cq91, kq91, q91a, q91b, q91c⟩ := isOf hZ eh82 E0
            obtain ⟨_, _, ⟨T91, L91, k91, n91⟩, -, X91, ⟨Lc91, hQ91, l91, y91, z91⟩, st91⟩ := X82.virtualBack hx (y := (⟨"java/lang/String", "length", "()I"⟩ : MethodName)) (z := (⟨"java/lang/String", "length", "()I"⟩ : MethodName)) hown (mvT hZ (hq hw 38 rfl)) (mvT hZ (hq hw 39 rfl)) (notFace_of_selects (args := #[]) (mvT hZ (hq hw 41 rfl))) (mvT hZ (hq hw 41 rfl)) (mvT hZ (hq hw 40 rfl)) (by decide) (backOf (W := 1) (rm9 l Z a0 hw [] r0 (1 : Int32) ta kb (6 : Int32) [(.int (nar .byte ((c0 >>> ((0 : Int32) &&& 31)).toInt8.toInt32))), (.int (nar .byte ((c0 >>> ((8 : Int32) &&& 31)).toInt8.toInt32))), (.int (nar .byte ((c1 >>> ((0 : Int32) &&& 31)).toInt8.toInt32))), (.int (nar .byte ((c1 >>> ((8 : Int32) &&& 31)).toInt8.toInt32))), (.int (nar .byte ((c2 >>> ((0 : Int32) &&& 31)).toInt8.toInt32))), (.int (nar .byte ((c2 >>> ((8 : Int32) &&& 31)).toInt8.toInt32)))] (3 : Int32) cst fv h0 n0 Z0 E0 Fc Fv V0 O0 (by decide) SS) hZ (hq hw 42 rfl) (hq hw 3 rfl) (by decide) (by decide)) q91a q91c (g := (mkF m 4 #[rv r0, iv 3, iv c2] [(.ref r0), (.int (3 : Int32))])) rfl (by rw [hml]; rfl) (Steps.refl _) (argsL := []) (rest := [(.int (3 : Int32))]) (lenOf pd_14 rfl) rfl (by show 2 * 0 + _ ≤ _; exact Nat.le_of_eq rfl) (hb hby d8_4) (fun _ _ => ⟨rfl, eh82, (by decide : 0 + 0 ≤ _), (by decide : 0 + 0 ≤ _)⟩)
            dsimp only [Pt.U, Pt.locs, Pt.cells, Pt.slots] at X91 l91 y91 z91 st91 hQ91
            subst l91 y91 z91
            obtain ⟨rfl, N91q, eh91⟩ := hQ91
            have N91 := Fr.app N82 N91q
            have G92 : ∀ t, Steps p.tables e below (T91.setTop (mkF m 7 #[rv r0, iv 3, iv c2] [(.int (3 : Int32)), (.int (3 : Int32))])) t → Steps p.tables e below (s₁.setTop (entryFrame m #[(.ref r0)] 3)) t := by
             intro t kt
             refine G89 _ ?_
             refine XS.icmpYes X82.here hx rfl (pc0 := 38) (pc' := 43) rfl (hb hby d8_38) rfl (flt hc38_90).2.2.2 (by decide) (by decide) ?_
             refine XS.iinc X82.here hx rfl (hb hby d8_43) rfl (l' := #[rv r0, iv 3, iv c2]) rfl ?_
             refine XS.goto X82.here hx rfl (pc0 := 46) (pc' := 2) rfl (hb hby d8_46) (by decide) (by decide) ?_
             refine XS.iloadN X82.here hx rfl (hb hby d8_2) rfl ?_
             refine XS.aloadN X82.here hx rfl (hb hby d8_3) rfl rfl ?_
             refine st91.trans ?_
             exact kt
            obtain ⟨fs, hr, hrun, hended, hW, hsame⟩ := X91.leave (v := some (.int (1 : Int32))) (fun h => by rw [Bd.returns] at h; cases h)
            refine ⟨_, _, G92 _ ?_, hrun, hended, _, _, rfl, ?_, ⟨_, rfl⟩, hW, hsame.mono (by decide) (by decide)⟩
            ·skip
             refine XS.icmpYes X91.here hx rfl (pc0 := 7) (pc' := 49) rfl (hb hby d8_7) rfl (flt (by decide)).2.1 (by decide) (by decide) ?_
             refine XS.iconst X91.here hx rfl (hb hby d8_49) ?_
             exact retN X91 hx (t := .boolean) Bd.returns (by simp) (hb hby d8_50) hr
            ·show QrmFVU3 Z r0 c0 c1 c2 ta kb cst fv h0 n0 _ T91.heap _
             rw [eh91]
             exact ⟨by rw [own_fv, if_neg ((own_al c0).1 (by have q0 := hc19_5; have q1 := hc31_66; have q2 := hc38_68; simp only [Int32.lt_iff_toInt_lt, ← Int32.toInt_inj, own_k9, own_k32, own_k127, own_k255] at q0 q1 q2; omega)), own_fv, if_neg ((own_al c1).1 (by have q0 := hc19_73; have q1 := hc25_75; have q2 := hc31_77; have q3 := hc38_79; simp only [Int32.lt_iff_toInt_lt, ← Int32.toInt_inj, own_k9, own_k32, own_k127, own_k255] at q0 q1 q2 q3; omega)), own_fv, if_neg ((own_al c2).1 (by have q0 := hc19_84; have q1 := hc25_86; have q2 := hc31_88; have q3 := hc38_90; simp only [Int32.lt_iff_toInt_lt, ← Int32.toInt_inj, own_k9, own_k32, own_k127, own_k255] at q0 q1 q2 q3; omega)), own_fv], N91, rfl⟩
         ·skip
          obtain ⟨fs, hr, hrun, hended, hW, hsame⟩ := X82.leave (v := some (.int (0 : Int32))) (fun h => by rw [Bd.returns] at h; cases h)
          refine ⟨_, _, G85 _ ?_, hrun, hended, _, _, rfl, ?_, ⟨_, rfl⟩, hW, hsame.mono (by decide) (by decide)⟩
          ·skip
           refine XS.icmpYes X82.here hx rfl (pc0 := 25) (pc' := 41) rfl (hb hby d8_25) rfl (feq hc25_86).2 (by decide) (by decide) ?_
           refine XS.iconst X82.here hx rfl (hb hby d8_41) ?_
           exact retN X82 hx (t := .boolean) Bd.returns (by simp) (hb hby d8_42) hr
          ·show QrmFVU3 Z r0 c0 c1 c2 ta kb cst fv h0 n0 _ T82.heap _
           rw [eh82]
           exact ⟨by rw [own_fv, if_neg ((own_al c0).1 (by have q0 := hc19_5; have q1 := hc31_66; have q2 := hc38_68; simp only [Int32.lt_iff_toInt_lt, ← Int32.toInt_inj, own_k9, own_k32, own_k127, own_k255] at q0 q1 q2; omega)), own_fv, if_neg ((own_al c1).1 (by have q0 := hc19_73; have q1 := hc25_75; have q2 := hc31_77; have q3 := hc38_79; simp only [Int32.lt_iff_toInt_lt, ← Int32.toInt_inj, own_k9, own_k32, own_k127, own_k255] at q0 q1 q2 q3; omega)), own_fv, if_pos ((own_al c2).2 (by have q0 := hc19_84; have q1 := hc25_86; simp only [Int32.lt_iff_toInt_lt, ← Int32.toInt_inj, own_k9, own_k32, own_k127, own_k255] at q0 q1; omega))], N82, rfl⟩
        ·skip
         have G93 : ∀ t, Steps p.tables e below (T82.setTop (mkF m 31 #[rv r0, iv 2, iv c2] [(.int (127 : Int32)), (.int c2)])) t → Steps p.tables e below (s₁.setTop (entryFrame m #[(.ref r0)] 3)) t := by
          intro t kt
          refine G83 _ ?_
          refine XS.icmpYes X82.here hx rfl (pc0 := 19) (pc' := 28) rfl (hb hby d8_19) rfl (flt hc19_84).2.1 (by decide) (by decide) ?_
          refine XS.iloadN X82.here hx rfl (hb hby d8_28) rfl ?_
          refine XS.bipush X82.here hx rfl (hb hby d8_29) ?_
          exact kt
         by_cases hc31_94 : c2 = (127 : Int32)
         ·skip
          obtain ⟨fs, hr, hrun, hended, hW, hsame⟩ := X82.leave (v := some (.int (0 : Int32))) (fun h => by rw [Bd.returns] at h; cases h)
          refine ⟨_, _, G93 _ ?_, hrun, hended, _, _, rfl, ?_, ⟨_, rfl⟩, hW, hsame.mono (by decide) (by decide)⟩
          ·skip
           refine XS.icmpYes X82.here hx rfl (pc0 := 31) (pc' := 41) rfl (hb hby d8_31) rfl (teq hc31_94).1 (by decide) (by decide) ?_
           refine XS.iconst X82.here hx rfl (hb hby d8_41) ?_
           exact retN X82 hx (t := .boolean) Bd.returns (by simp) (hb hby d8_42) hr
          ·show QrmFVU3 Z r0 c0 c1 c2 ta kb cst fv h0 n0 _ T82.heap _
           rw [eh82]
           exact ⟨by rw [own_fv, if_neg ((own_al c0).1 (by have q0 := hc19_5; have q1 := hc31_66; have q2 := hc38_68; simp only [Int32.lt_iff_toInt_lt, ← Int32.toInt_inj, own_k9, own_k32, own_k127, own_k255] at q0 q1 q2; omega)), own_fv, if_neg ((own_al c1).1 (by have q0 := hc19_73; have q1 := hc25_75; have q2 := hc31_77; have q3 := hc38_79; simp only [Int32.lt_iff_toInt_lt, ← Int32.toInt_inj, own_k9, own_k32, own_k127, own_k255] at q0 q1 q2 q3; omega)), own_fv, if_pos ((own_al c2).2 (by have q0 := hc19_84; have q1 := hc31_94; simp only [Int32.lt_iff_toInt_lt, ← Int32.toInt_inj, own_k9, own_k32, own_k127, own_k255] at q0 q1; omega))], N82, rfl⟩
         ·skip
          have G95 : ∀ t, Steps p.tables e below (T82.setTop (mkF m 38 #[rv r0, iv 2, iv c2] [(.int (255 : Int32)), (.int c2)])) t → Steps p.tables e below (s₁.setTop (entryFrame m #[(.ref r0)] 3)) t := by
           intro t kt
           refine G93 _ ?_
           refine XS.icmpNo X82.here hx rfl (hb hby d8_31) rfl (feq hc31_94).1 ?_
           refine XS.iloadN X82.here hx rfl (hb hby d8_34) rfl ?_
           refine XS.sipush X82.here hx rfl (hb hby d8_35) ?_
           exact kt
          by_cases hc38_96 : (255 : Int32) < c2
          ·skip
           obtain ⟨fs, hr, hrun, hended, hW, hsame⟩ := X82.leave (v := some (.int (0 : Int32))) (fun h => by rw [Bd.returns] at h; cases h)
           refine ⟨_, _, G95 _ ?_, hrun, hended, _, _, rfl, ?_, ⟨_, rfl⟩, hW, hsame.mono (by decide) (by decide)⟩
           ·skip
            refine XS.icmpNo X82.here hx rfl (hb hby d8_38) rfl (tlt hc38_96).2.2.2 ?_
            refine XS.iconst X82.here hx rfl (hb hby d8_41) ?_
            exact retN X82 hx (t := .boolean) Bd.returns (by simp) (hb hby d8_42) hr
           ·show QrmFVU3 Z r0 c0 c1 c2 ta kb cst fv h0 n0 _ T82.heap _
            rw [eh82]
            exact ⟨by rw [own_fv, if_neg ((own_al c0).1 (by have q0 := hc19_5; have q1 := hc31_66; have q2 := hc38_68; simp only [Int32.lt_iff_toInt_lt, ← Int32.toInt_inj, own_k9, own_k32, own_k127, own_k255] at q0 q1 q2; omega)), own_fv, if_neg ((own_al c1).1 (by have q0 := hc19_73; have q1 := hc25_75; have q2 := hc31_77; have q3 := hc38_79; simp only [Int32.lt_iff_toInt_lt, ← Int32.toInt_inj, own_k9, own_k32, own_k127, own_k255] at q0 q1 q2 q3; omega)), own_fv, if_pos ((own_al c2).2 (by have q0 := hc19_84; have q1 := hc31_94; have q2 := hc38_96; simp only [Int32.lt_iff_toInt_lt, ← Int32.toInt_inj, own_k9, own_k32, own_k127, own_k255] at q0 q1 q2; omega))], N82, rfl⟩
          ·skip
           obtain ⟨cq97, kq97, q97a, q97b, q97c⟩ := isOf hZ eh82 E0
           obtain ⟨_, _, ⟨T97, L97, k97, n97⟩, -, X97, ⟨Lc97, hQ97, l97, y97, z97⟩, st97⟩ := X82.virtualBack hx (y := (⟨"java/lang/String", "length", "()I"⟩ : MethodName)) (z := (⟨"java/lang/String", "length", "()I"⟩ : MethodName)) hown (mvT hZ (hq hw 38 rfl)) (mvT hZ (hq hw 39 rfl)) (notFace_of_selects (args := #[]) (mvT hZ (hq hw 41 rfl))) (mvT hZ (hq hw 41 rfl)) (mvT hZ (hq hw 40 rfl)) (by decide) (backOf (W := 1) (rm9 l Z a0 hw [] r0 (1 : Int32) ta kb (6 : Int32) [(.int (nar .byte ((c0 >>> ((0 : Int32) &&& 31)).toInt8.toInt32))), (.int (nar .byte ((c0 >>> ((8 : Int32) &&& 31)).toInt8.toInt32))), (.int (nar .byte ((c1 >>> ((0 : Int32) &&& 31)).toInt8.toInt32))), (.int (nar .byte ((c1 >>> ((8 : Int32) &&& 31)).toInt8.toInt32))), (.int (nar .byte ((c2 >>> ((0 : Int32) &&& 31)).toInt8.toInt32))), (.int (nar .byte ((c2 >>> ((8 : Int32) &&& 31)).toInt8.toInt32)))] (3 : Int32) cst fv h0 n0 Z0 E0 Fc Fv V0 O0 (by decide) SS) hZ (hq hw 42 rfl) (hq hw 3 rfl) (by decide) (by decide)) q97a q97c (g := (mkF m 4 #[rv r0, iv 3, iv c2] [(.ref r0), (.int (3 : Int32))])) rfl (by rw [hml]; rfl) (Steps.refl _) (argsL := []) (rest := [(.int (3 : Int32))]) (lenOf pd_14 rfl) rfl (by show 2 * 0 + _ ≤ _; exact Nat.le_of_eq rfl) (hb hby d8_4) (fun _ _ => ⟨rfl, eh82, (by decide : 0 + 0 ≤ _), (by decide : 0 + 0 ≤ _)⟩)
           dsimp only [Pt.U, Pt.locs, Pt.cells, Pt.slots] at X97 l97 y97 z97 st97 hQ97
           subst l97 y97 z97
           obtain ⟨rfl, N97q, eh97⟩ := hQ97
           have N97 := Fr.app N82 N97q
           have G98 : ∀ t, Steps p.tables e below (T97.setTop (mkF m 7 #[rv r0, iv 3, iv c2] [(.int (3 : Int32)), (.int (3 : Int32))])) t → Steps p.tables e below (s₁.setTop (entryFrame m #[(.ref r0)] 3)) t := by
            intro t kt
            refine G95 _ ?_
            refine XS.icmpYes X82.here hx rfl (pc0 := 38) (pc' := 43) rfl (hb hby d8_38) rfl (flt hc38_96).2.2.2 (by decide) (by decide) ?_
            refine XS.iinc X82.here hx rfl (hb hby d8_43) rfl (l' := #[rv r0, iv 3, iv c2]) rfl ?_
            refine XS.goto X82.here hx rfl (pc0 := 46) (pc' := 2) rfl (hb hby d8_46) (by decide) (by decide) ?_
            refine XS.iloadN X82.here hx rfl (hb hby d8_2) rfl ?_
            refine XS.aloadN X82.here hx rfl (hb hby d8_3) rfl rfl ?_
            refine st97.trans ?_
            exact kt
           obtain ⟨fs, hr, hrun, hended, hW, hsame⟩ := X97.leave (v := some (.int (1 : Int32))) (fun h => by rw [Bd.returns] at h; cases h)
           refine ⟨_, _, G98 _ ?_, hrun, hended, _, _, rfl, ?_, ⟨_, rfl⟩, hW, hsame.mono (by decide) (by decide)⟩
           ·skip
            refine XS.icmpYes X97.here hx rfl (pc0 := 7) (pc' := 49) rfl (hb hby d8_7) rfl (flt (by decide)).2.1 (by decide) (by decide) ?_
            refine XS.iconst X97.here hx rfl (hb hby d8_49) ?_
            exact retN X97 hx (t := .boolean) Bd.returns (by simp) (hb hby d8_50) hr
           ·show QrmFVU3 Z r0 c0 c1 c2 ta kb cst fv h0 n0 _ T97.heap _
            rw [eh97]
            exact ⟨by rw [own_fv, if_neg ((own_al c0).1 (by have q0 := hc19_5; have q1 := hc31_66; have q2 := hc38_68; simp only [Int32.lt_iff_toInt_lt, ← Int32.toInt_inj, own_k9, own_k32, own_k127, own_k255] at q0 q1 q2; omega)), own_fv, if_neg ((own_al c1).1 (by have q0 := hc19_73; have q1 := hc25_75; have q2 := hc31_77; have q3 := hc38_79; simp only [Int32.lt_iff_toInt_lt, ← Int32.toInt_inj, own_k9, own_k32, own_k127, own_k255] at q0 q1 q2 q3; omega)), own_fv, if_neg ((own_al c2).1 (by have q0 := hc19_84; have q1 := hc31_94; have q2 := hc38_96; simp only [Int32.lt_iff_toInt_lt, ← Int32.toInt_inj, own_k9, own_k32, own_k127, own_k255] at q0 q1 q2; omega)), own_fv], N97, rfl⟩
     ·skip
      obtain ⟨fs, hr, hrun, hended, hW, hsame⟩ := X71.leave (v := some (.int (0 : Int32))) (fun h => by rw [Bd.returns] at h; cases h)
      refine ⟨_, _, G74 _ ?_, hrun, hended, _, _, rfl, ?_, ⟨_, rfl⟩, hW, hsame.mono (by decide) (by decide)⟩
      ·skip
       refine XS.icmpYes X71.here hx rfl (pc0 := 25) (pc' := 41) rfl (hb hby d8_25) rfl (feq hc25_75).2 (by decide) (by decide) ?_
       refine XS.iconst X71.here hx rfl (hb hby d8_41) ?_
       exact retN X71 hx (t := .boolean) Bd.returns (by simp) (hb hby d8_42) hr
      ·show QrmFVU3 Z r0 c0 c1 c2 ta kb cst fv h0 n0 _ T71.heap _
       rw [eh71]
       exact ⟨by rw [own_fv, if_neg ((own_al c0).1 (by have q0 := hc19_5; have q1 := hc31_66; have q2 := hc38_68; simp only [Int32.lt_iff_toInt_lt, ← Int32.toInt_inj, own_k9, own_k32, own_k127, own_k255] at q0 q1 q2; omega)), own_fv, if_pos ((own_al c1).2 (by have q0 := hc19_73; have q1 := hc25_75; simp only [Int32.lt_iff_toInt_lt, ← Int32.toInt_inj, own_k9, own_k32, own_k127, own_k255] at q0 q1; omega))], N71, rfl⟩
    ·skip
     have G99 : ∀ t, Steps p.tables e below (T71.setTop (mkF m 31 #[rv r0, iv 1, iv c1] [(.int (127 : Int32)), (.int c1)])) t → Steps p.tables e below (s₁.setTop (entryFrame m #[(.ref r0)] 3)) t := by
      intro t kt
      refine G72 _ ?_
      refine XS.icmpYes X71.here hx rfl (pc0 := 19) (pc' := 28) rfl (hb hby d8_19) rfl (flt hc19_73).2.1 (by decide) (by decide) ?_
      refine XS.iloadN X71.here hx rfl (hb hby d8_28) rfl ?_
      refine XS.bipush X71.here hx rfl (hb hby d8_29) ?_
      exact kt
     by_cases hc31_100 : c1 = (127 : Int32)
     ·skip
      obtain ⟨fs, hr, hrun, hended, hW, hsame⟩ := X71.leave (v := some (.int (0 : Int32))) (fun h => by rw [Bd.returns] at h; cases h)
      refine ⟨_, _, G99 _ ?_, hrun, hended, _, _, rfl, ?_, ⟨_, rfl⟩, hW, hsame.mono (by decide) (by decide)⟩
      ·skip
       refine XS.icmpYes X71.here hx rfl (pc0 := 31) (pc' := 41) rfl (hb hby d8_31) rfl (teq hc31_100).1 (by decide) (by decide) ?_
       refine XS.iconst X71.here hx rfl (hb hby d8_41) ?_
       exact retN X71 hx (t := .boolean) Bd.returns (by simp) (hb hby d8_42) hr
      ·show QrmFVU3 Z r0 c0 c1 c2 ta kb cst fv h0 n0 _ T71.heap _
       rw [eh71]
       exact ⟨by rw [own_fv, if_neg ((own_al c0).1 (by have q0 := hc19_5; have q1 := hc31_66; have q2 := hc38_68; simp only [Int32.lt_iff_toInt_lt, ← Int32.toInt_inj, own_k9, own_k32, own_k127, own_k255] at q0 q1 q2; omega)), own_fv, if_pos ((own_al c1).2 (by have q0 := hc19_73; have q1 := hc31_100; simp only [Int32.lt_iff_toInt_lt, ← Int32.toInt_inj, own_k9, own_k32, own_k127, own_k255] at q0 q1; omega))], N71, rfl⟩
     ·skip
      have G101 : ∀ t, Steps p.tables e below (T71.setTop (mkF m 38 #[rv r0, iv 1, iv c1] [(.int (255 : Int32)), (.int c1)])) t → Steps p.tables e below (s₁.setTop (entryFrame m #[(.ref r0)] 3)) t := by
       intro t kt
       refine G99 _ ?_
       refine XS.icmpNo X71.here hx rfl (hb hby d8_31) rfl (feq hc31_100).1 ?_
       refine XS.iloadN X71.here hx rfl (hb hby d8_34) rfl ?_
       refine XS.sipush X71.here hx rfl (hb hby d8_35) ?_
       exact kt
      by_cases hc38_102 : (255 : Int32) < c1
      ·skip
       obtain ⟨fs, hr, hrun, hended, hW, hsame⟩ := X71.leave (v := some (.int (0 : Int32))) (fun h => by rw [Bd.returns] at h; cases h)
       refine ⟨_, _, G101 _ ?_, hrun, hended, _, _, rfl, ?_, ⟨_, rfl⟩, hW, hsame.mono (by decide) (by decide)⟩
       ·skip
        refine XS.icmpNo X71.here hx rfl (hb hby d8_38) rfl (tlt hc38_102).2.2.2 ?_
        refine XS.iconst X71.here hx rfl (hb hby d8_41) ?_
        exact retN X71 hx (t := .boolean) Bd.returns (by simp) (hb hby d8_42) hr
       ·show QrmFVU3 Z r0 c0 c1 c2 ta kb cst fv h0 n0 _ T71.heap _
        rw [eh71]
        exact ⟨by rw [own_fv, if_neg ((own_al c0).1 (by have q0 := hc19_5; have q1 := hc31_66; have q2 := hc38_68; simp only [Int32.lt_iff_toInt_lt, ← Int32.toInt_inj, own_k9, own_k32, own_k127, own_k255] at q0 q1 q2; omega)), own_fv, if_pos ((own_al c1).2 (by have q0 := hc19_73; have q1 := hc31_100; have q2 := hc38_102; simp only [Int32.lt_iff_toInt_lt, ← Int32.toInt_inj, own_k9, own_k32, own_k127, own_k255] at q0 q1 q2; omega))], N71, rfl⟩
      ·skip
       obtain ⟨cq103, kq103, q103a, q103b, q103c⟩ := isOf hZ eh71 E0
       obtain ⟨_, _, ⟨T103, L103, k103, n103⟩, -, X103, ⟨Lc103, hQ103, l103, y103, z103⟩, st103⟩ := X71.virtualBack hx (y := (⟨"java/lang/String", "length", "()I"⟩ : MethodName)) (z := (⟨"java/lang/String", "length", "()I"⟩ : MethodName)) hown (mvT hZ (hq hw 38 rfl)) (mvT hZ (hq hw 39 rfl)) (notFace_of_selects (args := #[]) (mvT hZ (hq hw 41 rfl))) (mvT hZ (hq hw 41 rfl)) (mvT hZ (hq hw 40 rfl)) (by decide) (backOf (W := 1) (rm9 l Z a0 hw [] r0 (1 : Int32) ta kb (6 : Int32) [(.int (nar .byte ((c0 >>> ((0 : Int32) &&& 31)).toInt8.toInt32))), (.int (nar .byte ((c0 >>> ((8 : Int32) &&& 31)).toInt8.toInt32))), (.int (nar .byte ((c1 >>> ((0 : Int32) &&& 31)).toInt8.toInt32))), (.int (nar .byte ((c1 >>> ((8 : Int32) &&& 31)).toInt8.toInt32))), (.int (nar .byte ((c2 >>> ((0 : Int32) &&& 31)).toInt8.toInt32))), (.int (nar .byte ((c2 >>> ((8 : Int32) &&& 31)).toInt8.toInt32)))] (3 : Int32) cst fv h0 n0 Z0 E0 Fc Fv V0 O0 (by decide) SS) hZ (hq hw 42 rfl) (hq hw 3 rfl) (by decide) (by decide)) q103a q103c (g := (mkF m 4 #[rv r0, iv 2, iv c1] [(.ref r0), (.int (2 : Int32))])) rfl (by rw [hml]; rfl) (Steps.refl _) (argsL := []) (rest := [(.int (2 : Int32))]) (lenOf pd_14 rfl) rfl (by show 2 * 0 + _ ≤ _; exact Nat.le_of_eq rfl) (hb hby d8_4) (fun _ _ => ⟨rfl, eh71, (by decide : 0 + 0 ≤ _), (by decide : 0 + 0 ≤ _)⟩)
       dsimp only [Pt.U, Pt.locs, Pt.cells, Pt.slots] at X103 l103 y103 z103 st103 hQ103
       subst l103 y103 z103
       obtain ⟨rfl, N103q, eh103⟩ := hQ103
       have N103 := Fr.app N71 N103q
       have G104 : ∀ t, Steps p.tables e below (T103.setTop (mkF m 7 #[rv r0, iv 2, iv c1] [(.int (3 : Int32)), (.int (2 : Int32))])) t → Steps p.tables e below (s₁.setTop (entryFrame m #[(.ref r0)] 3)) t := by
        intro t kt
        refine G101 _ ?_
        refine XS.icmpYes X71.here hx rfl (pc0 := 38) (pc' := 43) rfl (hb hby d8_38) rfl (flt hc38_102).2.2.2 (by decide) (by decide) ?_
        refine XS.iinc X71.here hx rfl (hb hby d8_43) rfl (l' := #[rv r0, iv 2, iv c1]) rfl ?_
        refine XS.goto X71.here hx rfl (pc0 := 46) (pc' := 2) rfl (hb hby d8_46) (by decide) (by decide) ?_
        refine XS.iloadN X71.here hx rfl (hb hby d8_2) rfl ?_
        refine XS.aloadN X71.here hx rfl (hb hby d8_3) rfl rfl ?_
        refine st103.trans ?_
        exact kt
       obtain ⟨cq105, kq105, q105a, q105b, q105c⟩ := isOf hZ eh103 E0
       obtain ⟨_, _, ⟨T105, L105, k105, n105⟩, -, X105, ⟨Lc105, hQ105, l105, y105, z105⟩, st105⟩ := X103.virtualBack hx (y := (⟨"java/lang/String", "charAt", "(I)C"⟩ : MethodName)) (z := (⟨"java/lang/String", "charAt", "(I)C"⟩ : MethodName)) hown (mvT hZ (hq hw 48 rfl)) (mvT hZ (hq hw 49 rfl)) (notFace_of_selects (args := #[]) (mvT hZ (hq hw 51 rfl))) (mvT hZ (hq hw 51 rfl)) (mvT hZ (hq hw 50 rfl)) (by decide) (backOf (W := 0) (rmChU l Z a0 hw [] r0 (2 : Int32) ta kb (6 : Int32) [(.int (nar .byte ((c0 >>> ((0 : Int32) &&& 31)).toInt8.toInt32))), (.int (nar .byte ((c0 >>> ((8 : Int32) &&& 31)).toInt8.toInt32))), (.int (nar .byte ((c1 >>> ((0 : Int32) &&& 31)).toInt8.toInt32))), (.int (nar .byte ((c1 >>> ((8 : Int32) &&& 31)).toInt8.toInt32))), (.int (nar .byte ((c2 >>> ((0 : Int32) &&& 31)).toInt8.toInt32))), (.int (nar .byte ((c2 >>> ((8 : Int32) &&& 31)).toInt8.toInt32)))] (nar .byte ((c2 >>> ((0 : Int32) &&& 31)).toInt8.toInt32)) (nar .byte ((c2 >>> ((8 : Int32) &&& 31)).toInt8.toInt32)) c2 cst fv h0 n0 Z0 E0 Fc Fv V0 O0 (by decide) (by decide) (by decide) (by decide) rfl rfl (own_utf c2 hb2) SS) hZ (hq hw 52 rfl) (hq hw 3 rfl) (by decide) (by decide)) q105a q105c (g := (mkF m 12 #[rv r0, iv 2, iv c1] [(.int (2 : Int32)), (.ref r0)])) rfl (by rw [hml]; rfl) (Steps.refl _) (argsL := [(.int (2 : Int32))]) (rest := []) (lenOf pd_15 rfl) rfl (by show 2 * 0 + _ ≤ _; exact Nat.le_of_eq rfl) (hb hby d8_12) (fun _ _ => ⟨rfl, eh103, (by decide : 0 + 0 ≤ _), (by decide : 0 + 0 ≤ _)⟩)
       dsimp only [Pt.U, Pt.locs, Pt.cells, Pt.slots] at X105 l105 y105 z105 st105 hQ105
       subst l105 y105 z105
       obtain ⟨rfl, N105q, eh105⟩ := hQ105
       have N105 := Fr.app N103 N105q
       have G106 : ∀ t, Steps p.tables e below (T105.setTop (mkF m 19 #[rv r0, iv 2, iv c2] [(.int (32 : Int32)), (.int c2)])) t → Steps p.tables e below (s₁.setTop (entryFrame m #[(.ref r0)] 3)) t := by
        intro t kt
        refine G104 _ ?_
        refine XS.icmpNo X103.here hx rfl (hb hby d8_7) rfl (tlt (by decide)).2.1 ?_
        refine XS.aloadN X103.here hx rfl (hb hby d8_10) rfl rfl ?_
        refine XS.iloadN X103.here hx rfl (hb hby d8_11) rfl ?_
        refine st105.trans ?_
        refine XS.istoreN X105.here hx rfl (hb hby d8_15) rfl (l' := #[rv r0, iv 2, iv c2]) rfl ?_
        show Steps p.tables e below (T105.setTop (mkF m 16 #[rv r0, iv 2, iv c2] [])) _
        refine XS.iloadN X105.here hx rfl (hb hby d8_16) rfl ?_
        refine XS.bipush X105.here hx rfl (hb hby d8_17) ?_
        exact kt
       by_cases hc19_107 : c2 < (32 : Int32)
       ·skip
        have G108 : ∀ t, Steps p.tables e below (T105.setTop (mkF m 25 #[rv r0, iv 2, iv c2] [(.int (9 : Int32)), (.int c2)])) t → Steps p.tables e below (s₁.setTop (entryFrame m #[(.ref r0)] 3)) t := by
         intro t kt
         refine G106 _ ?_
         refine XS.icmpNo X105.here hx rfl (hb hby d8_19) rfl (tlt hc19_107).2.1 ?_
         refine XS.iloadN X105.here hx rfl (hb hby d8_22) rfl ?_
         refine XS.bipush X105.here hx rfl (hb hby d8_23) ?_
         exact kt
        by_cases hc25_109 : c2 = (9 : Int32)
        ·skip
         have G110 : ∀ t, Steps p.tables e below (T105.setTop (mkF m 31 #[rv r0, iv 2, iv c2] [(.int (127 : Int32)), (.int c2)])) t → Steps p.tables e below (s₁.setTop (entryFrame m #[(.ref r0)] 3)) t := by
          intro t kt
          refine G108 _ ?_
          refine XS.icmpNo X105.here hx rfl (hb hby d8_25) rfl (teq hc25_109).2 ?_
          refine XS.iloadN X105.here hx rfl (hb hby d8_28) rfl ?_
          refine XS.bipush X105.here hx rfl (hb hby d8_29) ?_
          exact kt
         by_cases hc31_111 : c2 = (127 : Int32)
         ·skip
          obtain ⟨fs, hr, hrun, hended, hW, hsame⟩ := X105.leave (v := some (.int (0 : Int32))) (fun h => by rw [Bd.returns] at h; cases h)
          refine ⟨_, _, G110 _ ?_, hrun, hended, _, _, rfl, ?_, ⟨_, rfl⟩, hW, hsame.mono (by decide) (by decide)⟩
          ·skip
           refine XS.icmpYes X105.here hx rfl (pc0 := 31) (pc' := 41) rfl (hb hby d8_31) rfl (teq hc31_111).1 (by decide) (by decide) ?_
           refine XS.iconst X105.here hx rfl (hb hby d8_41) ?_
           exact retN X105 hx (t := .boolean) Bd.returns (by simp) (hb hby d8_42) hr
          ·show QrmFVU3 Z r0 c0 c1 c2 ta kb cst fv h0 n0 _ T105.heap _
           rw [eh105]
           exact ⟨by rw [own_fv, if_neg ((own_al c0).1 (by have q0 := hc19_5; have q1 := hc31_66; have q2 := hc38_68; simp only [Int32.lt_iff_toInt_lt, ← Int32.toInt_inj, own_k9, own_k32, own_k127, own_k255] at q0 q1 q2; omega)), own_fv, if_neg ((own_al c1).1 (by have q0 := hc19_73; have q1 := hc31_100; have q2 := hc38_102; simp only [Int32.lt_iff_toInt_lt, ← Int32.toInt_inj, own_k9, own_k32, own_k127, own_k255] at q0 q1 q2; omega)), own_fv, if_pos ((own_al c2).2 (by have q0 := hc19_107; have q1 := hc25_109; have q2 := hc31_111; simp only [Int32.lt_iff_toInt_lt, ← Int32.toInt_inj, own_k9, own_k32, own_k127, own_k255] at q0 q1 q2; omega))], N105, rfl⟩
         ·skip
          have G112 : ∀ t, Steps p.tables e below (T105.setTop (mkF m 38 #[rv r0, iv 2, iv c2] [(.int (255 : Int32)), (.int c2)])) t → Steps p.tables e below (s₁.setTop (entryFrame m #[(.ref r0)] 3)) t := by
           intro t kt
           refine G110 _ ?_
           refine XS.icmpNo X105.here hx rfl (hb hby d8_31) rfl (feq hc31_111).1 ?_
           refine XS.iloadN X105.here hx rfl (hb hby d8_34) rfl ?_
           refine XS.sipush X105.here hx rfl (hb hby d8_35) ?_
           exact kt
          by_cases hc38_113 : (255 : Int32) < c2
          ·skip
           obtain ⟨fs, hr, hrun, hended, hW, hsame⟩ := X105.leave (v := some (.int (0 : Int32))) (fun h => by rw [Bd.returns] at h; cases h)
           refine ⟨_, _, G112 _ ?_, hrun, hended, _, _, rfl, ?_, ⟨_, rfl⟩, hW, hsame.mono (by decide) (by decide)⟩
           ·skip
            refine XS.icmpNo X105.here hx rfl (hb hby d8_38) rfl (tlt hc38_113).2.2.2 ?_
            refine XS.iconst X105.here hx rfl (hb hby d8_41) ?_
            exact retN X105 hx (t := .boolean) Bd.returns (by simp) (hb hby d8_42) hr
           ·show QrmFVU3 Z r0 c0 c1 c2 ta kb cst fv h0 n0 _ T105.heap _
            rw [eh105]
            exact ⟨by rw [own_fv, if_neg ((own_al c0).1 (by have q0 := hc19_5; have q1 := hc31_66; have q2 := hc38_68; simp only [Int32.lt_iff_toInt_lt, ← Int32.toInt_inj, own_k9, own_k32, own_k127, own_k255] at q0 q1 q2; omega)), own_fv, if_neg ((own_al c1).1 (by have q0 := hc19_73; have q1 := hc31_100; have q2 := hc38_102; simp only [Int32.lt_iff_toInt_lt, ← Int32.toInt_inj, own_k9, own_k32, own_k127, own_k255] at q0 q1 q2; omega)), own_fv, if_pos ((own_al c2).2 (by have q0 := hc19_107; have q1 := hc25_109; have q2 := hc31_111; have q3 := hc38_113; simp only [Int32.lt_iff_toInt_lt, ← Int32.toInt_inj, own_k9, own_k32, own_k127, own_k255] at q0 q1 q2 q3; omega))], N105, rfl⟩
          ·skip
           obtain ⟨cq114, kq114, q114a, q114b, q114c⟩ := isOf hZ eh105 E0
           obtain ⟨_, _, ⟨T114, L114, k114, n114⟩, -, X114, ⟨Lc114, hQ114, l114, y114, z114⟩, st114⟩ := X105.virtualBack hx (y := (⟨"java/lang/String", "length", "()I"⟩ : MethodName)) (z := (⟨"java/lang/String", "length", "()I"⟩ : MethodName)) hown (mvT hZ (hq hw 38 rfl)) (mvT hZ (hq hw 39 rfl)) (notFace_of_selects (args := #[]) (mvT hZ (hq hw 41 rfl))) (mvT hZ (hq hw 41 rfl)) (mvT hZ (hq hw 40 rfl)) (by decide) (backOf (W := 1) (rm9 l Z a0 hw [] r0 (1 : Int32) ta kb (6 : Int32) [(.int (nar .byte ((c0 >>> ((0 : Int32) &&& 31)).toInt8.toInt32))), (.int (nar .byte ((c0 >>> ((8 : Int32) &&& 31)).toInt8.toInt32))), (.int (nar .byte ((c1 >>> ((0 : Int32) &&& 31)).toInt8.toInt32))), (.int (nar .byte ((c1 >>> ((8 : Int32) &&& 31)).toInt8.toInt32))), (.int (nar .byte ((c2 >>> ((0 : Int32) &&& 31)).toInt8.toInt32))), (.int (nar .byte ((c2 >>> ((8 : Int32) &&& 31)).toInt8.toInt32)))] (3 : Int32) cst fv h0 n0 Z0 E0 Fc Fv V0 O0 (by decide) SS) hZ (hq hw 42 rfl) (hq hw 3 rfl) (by decide) (by decide)) q114a q114c (g := (mkF m 4 #[rv r0, iv 3, iv c2] [(.ref r0), (.int (3 : Int32))])) rfl (by rw [hml]; rfl) (Steps.refl _) (argsL := []) (rest := [(.int (3 : Int32))]) (lenOf pd_14 rfl) rfl (by show 2 * 0 + _ ≤ _; exact Nat.le_of_eq rfl) (hb hby d8_4) (fun _ _ => ⟨rfl, eh105, (by decide : 0 + 0 ≤ _), (by decide : 0 + 0 ≤ _)⟩)
           dsimp only [Pt.U, Pt.locs, Pt.cells, Pt.slots] at X114 l114 y114 z114 st114 hQ114
           subst l114 y114 z114
           obtain ⟨rfl, N114q, eh114⟩ := hQ114
           have N114 := Fr.app N105 N114q
           have G115 : ∀ t, Steps p.tables e below (T114.setTop (mkF m 7 #[rv r0, iv 3, iv c2] [(.int (3 : Int32)), (.int (3 : Int32))])) t → Steps p.tables e below (s₁.setTop (entryFrame m #[(.ref r0)] 3)) t := by
            intro t kt
            refine G112 _ ?_
            refine XS.icmpYes X105.here hx rfl (pc0 := 38) (pc' := 43) rfl (hb hby d8_38) rfl (flt hc38_113).2.2.2 (by decide) (by decide) ?_
            refine XS.iinc X105.here hx rfl (hb hby d8_43) rfl (l' := #[rv r0, iv 3, iv c2]) rfl ?_
            refine XS.goto X105.here hx rfl (pc0 := 46) (pc' := 2) rfl (hb hby d8_46) (by decide) (by decide) ?_
            refine XS.iloadN X105.here hx rfl (hb hby d8_2) rfl ?_
            refine XS.aloadN X105.here hx rfl (hb hby d8_3) rfl rfl ?_
            refine st114.trans ?_
            exact kt
           obtain ⟨fs, hr, hrun, hended, hW, hsame⟩ := X114.leave (v := some (.int (1 : Int32))) (fun h => by rw [Bd.returns] at h; cases h)
           refine ⟨_, _, G115 _ ?_, hrun, hended, _, _, rfl, ?_, ⟨_, rfl⟩, hW, hsame.mono (by decide) (by decide)⟩
           ·skip
            refine XS.icmpYes X114.here hx rfl (pc0 := 7) (pc' := 49) rfl (hb hby d8_7) rfl (flt (by decide)).2.1 (by decide) (by decide) ?_
            refine XS.iconst X114.here hx rfl (hb hby d8_49) ?_
            exact retN X114 hx (t := .boolean) Bd.returns (by simp) (hb hby d8_50) hr
           ·show QrmFVU3 Z r0 c0 c1 c2 ta kb cst fv h0 n0 _ T114.heap _
            rw [eh114]
            exact ⟨by rw [own_fv, if_neg ((own_al c0).1 (by have q0 := hc19_5; have q1 := hc31_66; have q2 := hc38_68; simp only [Int32.lt_iff_toInt_lt, ← Int32.toInt_inj, own_k9, own_k32, own_k127, own_k255] at q0 q1 q2; omega)), own_fv, if_neg ((own_al c1).1 (by have q0 := hc19_73; have q1 := hc31_100; have q2 := hc38_102; simp only [Int32.lt_iff_toInt_lt, ← Int32.toInt_inj, own_k9, own_k32, own_k127, own_k255] at q0 q1 q2; omega)), own_fv, if_neg ((own_al c2).1 (by have q0 := hc19_107; have q1 := hc25_109; have q2 := hc31_111; have q3 := hc38_113; simp only [Int32.lt_iff_toInt_lt, ← Int32.toInt_inj, own_k9, own_k32, own_k127, own_k255] at q0 q1 q2 q3; omega)), own_fv], N114, rfl⟩
        ·skip
         obtain ⟨fs, hr, hrun, hended, hW, hsame⟩ := X105.leave (v := some (.int (0 : Int32))) (fun h => by rw [Bd.returns] at h; cases h)
         refine ⟨_, _, G108 _ ?_, hrun, hended, _, _, rfl, ?_, ⟨_, rfl⟩, hW, hsame.mono (by decide) (by decide)⟩
         ·skip
          refine XS.icmpYes X105.here hx rfl (pc0 := 25) (pc' := 41) rfl (hb hby d8_25) rfl (feq hc25_109).2 (by decide) (by decide) ?_
          refine XS.iconst X105.here hx rfl (hb hby d8_41) ?_
          exact retN X105 hx (t := .boolean) Bd.returns (by simp) (hb hby d8_42) hr
         ·show QrmFVU3 Z r0 c0 c1 c2 ta kb cst fv h0 n0 _ T105.heap _
          rw [eh105]
          exact ⟨by rw [own_fv, if_neg ((own_al c0).1 (by have q0 := hc19_5; have q1 := hc31_66; have q2 := hc38_68; simp only [Int32.lt_iff_toInt_lt, ← Int32.toInt_inj, own_k9, own_k32, own_k127, own_k255] at q0 q1 q2; omega)), own_fv, if_neg ((own_al c1).1 (by have q0 := hc19_73; have q1 := hc31_100; have q2 := hc38_102; simp only [Int32.lt_iff_toInt_lt, ← Int32.toInt_inj, own_k9, own_k32, own_k127, own_k255] at q0 q1 q2; omega)), own_fv, if_pos ((own_al c2).2 (by have q0 := hc19_107; have q1 := hc25_109; simp only [Int32.lt_iff_toInt_lt, ← Int32.toInt_inj, own_k9, own_k32, own_k127, own_k255] at q0 q1; omega))], N105, rfl⟩
       ·skip
        have G116 : ∀ t, Steps p.tables e below (T105.setTop (mkF m 31 #[rv r0, iv 2, iv c2] [(.int (127 : Int32)), (.int c2)])) t → Steps p.tables e below (s₁.setTop (entryFrame m #[(.ref r0)] 3)) t := by
         intro t kt
         refine G106 _ ?_
         refine XS.icmpYes X105.here hx rfl (pc0 := 19) (pc' := 28) rfl (hb hby d8_19) rfl (flt hc19_107).2.1 (by decide) (by decide) ?_
         refine XS.iloadN X105.here hx rfl (hb hby d8_28) rfl ?_
         refine XS.bipush X105.here hx rfl (hb hby d8_29) ?_
         exact kt
        by_cases hc31_117 : c2 = (127 : Int32)
        ·skip
         obtain ⟨fs, hr, hrun, hended, hW, hsame⟩ := X105.leave (v := some (.int (0 : Int32))) (fun h => by rw [Bd.returns] at h; cases h)
         refine ⟨_, _, G116 _ ?_, hrun, hended, _, _, rfl, ?_, ⟨_, rfl⟩, hW, hsame.mono (by decide) (by decide)⟩
         ·skip
          refine XS.icmpYes X105.here hx rfl (pc0 := 31) (pc' := 41) rfl (hb hby d8_31) rfl (teq hc31_117).1 (by decide) (by decide) ?_
          refine XS.iconst X105.here hx rfl (hb hby d8_41) ?_
          exact retN X105 hx (t := .boolean) Bd.returns (by simp) (hb hby d8_42) hr
         ·show QrmFVU3 Z r0 c0 c1 c2 ta kb cst fv h0 n0 _ T105.heap _
          rw [eh105]
          exact ⟨by rw [own_fv, if_neg ((own_al c0).1 (by have q0 := hc19_5; have q1 := hc31_66; have q2 := hc38_68; simp only [Int32.lt_iff_toInt_lt, ← Int32.toInt_inj, own_k9, own_k32, own_k127, own_k255] at q0 q1 q2; omega)), own_fv, if_neg ((own_al c1).1 (by have q0 := hc19_73; have q1 := hc31_100; have q2 := hc38_102; simp only [Int32.lt_iff_toInt_lt, ← Int32.toInt_inj, own_k9, own_k32, own_k127, own_k255] at q0 q1 q2; omega)), own_fv, if_pos ((own_al c2).2 (by have q0 := hc19_107; have q1 := hc31_117; simp only [Int32.lt_iff_toInt_lt, ← Int32.toInt_inj, own_k9, own_k32, own_k127, own_k255] at q0 q1; omega))], N105, rfl⟩
        ·skip
         have G118 : ∀ t, Steps p.tables e below (T105.setTop (mkF m 38 #[rv r0, iv 2, iv c2] [(.int (255 : Int32)), (.int c2)])) t → Steps p.tables e below (s₁.setTop (entryFrame m #[(.ref r0)] 3)) t := by
          intro t kt
          refine G116 _ ?_
          refine XS.icmpNo X105.here hx rfl (hb hby d8_31) rfl (feq hc31_117).1 ?_
          refine XS.iloadN X105.here hx rfl (hb hby d8_34) rfl ?_
          refine XS.sipush X105.here hx rfl (hb hby d8_35) ?_
          exact kt
         by_cases hc38_119 : (255 : Int32) < c2
         ·skip
          obtain ⟨fs, hr, hrun, hended, hW, hsame⟩ := X105.leave (v := some (.int (0 : Int32))) (fun h => by rw [Bd.returns] at h; cases h)
          refine ⟨_, _, G118 _ ?_, hrun, hended, _, _, rfl, ?_, ⟨_, rfl⟩, hW, hsame.mono (by decide) (by decide)⟩
          ·skip
           refine XS.icmpNo X105.here hx rfl (hb hby d8_38) rfl (tlt hc38_119).2.2.2 ?_
           refine XS.iconst X105.here hx rfl (hb hby d8_41) ?_
           exact retN X105 hx (t := .boolean) Bd.returns (by simp) (hb hby d8_42) hr
          ·show QrmFVU3 Z r0 c0 c1 c2 ta kb cst fv h0 n0 _ T105.heap _
           rw [eh105]
           exact ⟨by rw [own_fv, if_neg ((own_al c0).1 (by have q0 := hc19_5; have q1 := hc31_66; have q2 := hc38_68; simp only [Int32.lt_iff_toInt_lt, ← Int32.toInt_inj, own_k9, own_k32, own_k127, own_k255] at q0 q1 q2; omega)), own_fv, if_neg ((own_al c1).1 (by have q0 := hc19_73; have q1 := hc31_100; have q2 := hc38_102; simp only [Int32.lt_iff_toInt_lt, ← Int32.toInt_inj, own_k9, own_k32, own_k127, own_k255] at q0 q1 q2; omega)), own_fv, if_pos ((own_al c2).2 (by have q0 := hc19_107; have q1 := hc31_117; have q2 := hc38_119; simp only [Int32.lt_iff_toInt_lt, ← Int32.toInt_inj, own_k9, own_k32, own_k127, own_k255] at q0 q1 q2; omega))], N105, rfl⟩
         ·skip
          obtain ⟨cq120, kq120, q120a, q120b, q120c⟩ := isOf hZ eh105 E0
          obtain ⟨_, _, ⟨T120, L120, k120, n120⟩, -, X120, ⟨Lc120, hQ120, l120, y120, z120⟩, st120⟩ := X105.virtualBack hx (y := (⟨"java/lang/String", "length", "()I"⟩ : MethodName)) (z := (⟨"java/lang/String", "length", "()I"⟩ : MethodName)) hown (mvT hZ (hq hw 38 rfl)) (mvT hZ (hq hw 39 rfl)) (notFace_of_selects (args := #[]) (mvT hZ (hq hw 41 rfl))) (mvT hZ (hq hw 41 rfl)) (mvT hZ (hq hw 40 rfl)) (by decide) (backOf (W := 1) (rm9 l Z a0 hw [] r0 (1 : Int32) ta kb (6 : Int32) [(.int (nar .byte ((c0 >>> ((0 : Int32) &&& 31)).toInt8.toInt32))), (.int (nar .byte ((c0 >>> ((8 : Int32) &&& 31)).toInt8.toInt32))), (.int (nar .byte ((c1 >>> ((0 : Int32) &&& 31)).toInt8.toInt32))), (.int (nar .byte ((c1 >>> ((8 : Int32) &&& 31)).toInt8.toInt32))), (.int (nar .byte ((c2 >>> ((0 : Int32) &&& 31)).toInt8.toInt32))), (.int (nar .byte ((c2 >>> ((8 : Int32) &&& 31)).toInt8.toInt32)))] (3 : Int32) cst fv h0 n0 Z0 E0 Fc Fv V0 O0 (by decide) SS) hZ (hq hw 42 rfl) (hq hw 3 rfl) (by decide) (by decide)) q120a q120c (g := (mkF m 4 #[rv r0, iv 3, iv c2] [(.ref r0), (.int (3 : Int32))])) rfl (by rw [hml]; rfl) (Steps.refl _) (argsL := []) (rest := [(.int (3 : Int32))]) (lenOf pd_14 rfl) rfl (by show 2 * 0 + _ ≤ _; exact Nat.le_of_eq rfl) (hb hby d8_4) (fun _ _ => ⟨rfl, eh105, (by decide : 0 + 0 ≤ _), (by decide : 0 + 0 ≤ _)⟩)
          dsimp only [Pt.U, Pt.locs, Pt.cells, Pt.slots] at X120 l120 y120 z120 st120 hQ120
          subst l120 y120 z120
          obtain ⟨rfl, N120q, eh120⟩ := hQ120
          have N120 := Fr.app N105 N120q
          have G121 : ∀ t, Steps p.tables e below (T120.setTop (mkF m 7 #[rv r0, iv 3, iv c2] [(.int (3 : Int32)), (.int (3 : Int32))])) t → Steps p.tables e below (s₁.setTop (entryFrame m #[(.ref r0)] 3)) t := by
           intro t kt
           refine G118 _ ?_
           refine XS.icmpYes X105.here hx rfl (pc0 := 38) (pc' := 43) rfl (hb hby d8_38) rfl (flt hc38_119).2.2.2 (by decide) (by decide) ?_
           refine XS.iinc X105.here hx rfl (hb hby d8_43) rfl (l' := #[rv r0, iv 3, iv c2]) rfl ?_
           refine XS.goto X105.here hx rfl (pc0 := 46) (pc' := 2) rfl (hb hby d8_46) (by decide) (by decide) ?_
           refine XS.iloadN X105.here hx rfl (hb hby d8_2) rfl ?_
           refine XS.aloadN X105.here hx rfl (hb hby d8_3) rfl rfl ?_
           refine st120.trans ?_
           exact kt
          obtain ⟨fs, hr, hrun, hended, hW, hsame⟩ := X120.leave (v := some (.int (1 : Int32))) (fun h => by rw [Bd.returns] at h; cases h)
          refine ⟨_, _, G121 _ ?_, hrun, hended, _, _, rfl, ?_, ⟨_, rfl⟩, hW, hsame.mono (by decide) (by decide)⟩
          ·skip
           refine XS.icmpYes X120.here hx rfl (pc0 := 7) (pc' := 49) rfl (hb hby d8_7) rfl (flt (by decide)).2.1 (by decide) (by decide) ?_
           refine XS.iconst X120.here hx rfl (hb hby d8_49) ?_
           exact retN X120 hx (t := .boolean) Bd.returns (by simp) (hb hby d8_50) hr
          ·show QrmFVU3 Z r0 c0 c1 c2 ta kb cst fv h0 n0 _ T120.heap _
           rw [eh120]
           exact ⟨by rw [own_fv, if_neg ((own_al c0).1 (by have q0 := hc19_5; have q1 := hc31_66; have q2 := hc38_68; simp only [Int32.lt_iff_toInt_lt, ← Int32.toInt_inj, own_k9, own_k32, own_k127, own_k255] at q0 q1 q2; omega)), own_fv, if_neg ((own_al c1).1 (by have q0 := hc19_73; have q1 := hc31_100; have q2 := hc38_102; simp only [Int32.lt_iff_toInt_lt, ← Int32.toInt_inj, own_k9, own_k32, own_k127, own_k255] at q0 q1 q2; omega)), own_fv, if_neg ((own_al c2).1 (by have q0 := hc19_107; have q1 := hc31_117; have q2 := hc38_119; simp only [Int32.lt_iff_toInt_lt, ← Int32.toInt_inj, own_k9, own_k32, own_k127, own_k255] at q0 q1 q2; omega)), own_fv], N120, rfl⟩
theorem own_m3 (x : Int32) : 0 ≤ (x &&& (3 : Int32)).toInt ∧ (x &&& (3 : Int32)).toInt ≤ 3 := by
  have a := c_mask x 3 2 (by decide) (by decide)
  have p2 : ((2 ^ 2 : Nat) : Int) = 4 := by decide
  rw [p2] at a
  omega
theorem own_at4 {a : Int32} (h : 0 ≤ a.toInt ∧ a.toInt ≤ 3) : a = 0 ∨ a = 1 ∨ a = 2 ∨ a = 3 := by
  have e : a.toInt = 0 ∨ a.toInt = 1 ∨ a.toInt = 2 ∨ a.toInt = 3 := by omega
  rcases e with e | e | e | e
  · exact Or.inl (Int32.toInt_inj.mp e)
  · exact Or.inr (Or.inl (Int32.toInt_inj.mp e))
  · exact Or.inr (Or.inr (Or.inl (Int32.toInt_inj.mp e)))
  · exact Or.inr (Or.inr (Or.inr (Int32.toInt_inj.mp e)))
theorem pd_16 : parseMethodDescriptor "([C)V" = some ⟨[(.array .char)], none⟩ := by decide +kernel
theorem pd_17 : parseMethodDescriptor "(Ljava/lang/String;)Z" = some ⟨[(.object "java/lang/String")], some .boolean⟩ := by decide +kernel
theorem pd_18 : parseMethodDescriptor "(C)Z" = some ⟨[.char], some .boolean⟩ := by decide +kernel
def Q0 (Z : State) (p0 : Int32) (p1 : Int32) (p2 : Int32) (p3 : Int32) (cst : Int32) (fv : Value) (h0 : Heap) (n0 : Nat) (v : Option Value) (h : Heap) (L : List Loc) : Prop := v = some (.int (1 : Int32)) ∧ Fr n0 L
theorem ef_rm0 (m : MethodId) (x0 : Int32) (x1 : Int32) (x2 : Int32) (x3 : Int32) : entryFrame m #[(.int x0), (.int x1), (.int x2), (.int x3)] maxLocals = mkF m 0 #[.val (.int x0), .val (.int x1), .val (.int x2), .val (.int x3), .unset, .unset, .unset, .unset, .unset, .unset, .unset] [] := by first | (simp [entryFrame, mkF, argsToLocals, Value.category, maxLocals]; done) | rfl
set_option maxRecDepth 65536 in
set_option maxHeartbeats 40000000 in
theorem rm0 (l : Launch) (Z : State) (a0 : Array Value) (hw : ∀ d ∈ tables_1, d.before a0 Z = true) (ws : List Jvm.Cond) (p0 : Int32) (p1 : Int32) (p2 : Int32) (p3 : Int32) (cst : Int32) (fv : Value) (h0 : Heap) (n0 : Nat) (Z0 : n0 ≤ h0.size) (O0 : Old Z n0 h0) (SS : Sts Z cst fv) :
  MetFree l x (head1 (Jvm.Cond.code x code maxLocals ret :: ws) room_1) (fun a U => a = #[(.int p0), (.int p1), (.int p2), (.int p3)] ∧ Z.Warmed39 U.vm ∧ U.heap = h0 ∧ CHv Z own_EL U.vm h0) (fun _ _ _ _ _ => True) (fun _ U o U' => ∃ v L, o = .returned v ∧ Q0 Z p0 p1 p2 p3 cst fv h0 n0 v U'.heap L ∧ ReturnedEndW U o U' L room_1.cells room_1.slots) := by
 refine MetFree.of_bodySF (plainFor_of_name pnc_com_example_wary_bearer_warybearer_http_Http1ReaderIsFieldValuePinLaw) hisR ?_
 intro p e s m args below meth c s₁ Bd hml0 hP hK
 obtain ⟨rfl, hZ, hh, CH0⟩ := hP
 have hx := Bd.exec
 have hby := Bd.bytes
 have hml : c.maxLocals = 11 := hml0
 have hown : s.vm.findClass "com/example/wary_bearer/warybearer/http/Http1ReaderIsFieldValuePinLaw" = some m.cls := findClass_of_methodNamed Bd.named
 have hnm := (name_of_methodNamed Bd.named Bd.method).1
 have X0 : Stand p l e room_1 s m #[(.int p0), (.int p1), (.int p2), (.int p3)] below meth c s₁ [] 0 0 := Stand.of_body Bd
 have e0 : s₁.heap = h0 := by rw [← hh, Bd.state]; rfl
 have N0 := Fr.nil n0
 have kp0 : Keep h0 h0 [] := Keep.refl _ _
 have G0 : ∀ t, Steps p.tables e below (s₁.setTop (mkF m 0 #[iv p0, iv p1, iv p2, iv p3, .unset, .unset, .unset, .unset, .unset, .unset, .unset] [])) t → Steps p.tables e below (s₁.setTop (entryFrame m #[(.int p0), (.int p1), (.int p2), (.int p3)] maxLocals)) t := fun t k => castTop (ef_rm0 m p0 p1 p2 p3) k
 have X0 : Stand p l e room_1 (s.setVm s.vm) m #[(.int p0), (.int p1), (.int p2), (.int p3)] below meth c s₁ [] 0 0 := X0
 have hZ : Z.Warmed39 (s.setVm s.vm).vm := hZ
 have hown : (s.setVm s.vm).vm.findClass "com/example/wary_bearer/warybearer/http/Http1ReaderIsFieldValuePinLaw" = some m.cls := hown
 have hEL : EW Z a0 own_EL := own_ew hw
 have CR0 : CHr Z own_EL s.vm h0 s.vm h0 := CHr.refl CH0
 have hS : s.Since s.vm 0 := (State.WarmedH.refl s).since 0
 have hk : 0 ≤ h0.size := Nat.zero_le _
 have G1 : ∀ t, Steps p.tables e below (s₁.setTop (mkF m 17 #[iv p0, iv p1, iv p2, iv p3, iv (p3 &&& (3 : Int32)), iv (p0.toUInt32.toUInt16.toUInt32.toInt32), iv (p1.toUInt32.toUInt16.toUInt32.toInt32), iv (p2.toUInt32.toUInt16.toUInt32.toInt32), .unset, .unset, .unset] [])) t → Steps p.tables e below (s₁.setTop (entryFrame m #[(.int p0), (.int p1), (.int p2), (.int p3)] maxLocals)) t := by
  intro t kt
  refine G0 _ ?_
  refine XS.iloadN X0.here hx rfl (hb hby at_0) rfl ?_
  refine XS.iconst X0.here hx rfl (hb hby at_1) ?_
  refine XS.iand X0.here hx rfl (hb hby at_2) rfl ?_
  refine XS.istore X0.here hx rfl (hb hby at_3) rfl (l' := #[iv p0, iv p1, iv p2, iv p3, iv (p3 &&& (3 : Int32)), .unset, .unset, .unset, .unset, .unset, .unset]) rfl ?_
  refine XS.iloadN X0.here hx rfl (hb hby at_5) rfl ?_
  refine XS.i2c X0.here hx rfl (hb hby at_6) rfl ?_
  refine XS.istore X0.here hx rfl (hb hby at_7) rfl (l' := #[iv p0, iv p1, iv p2, iv p3, iv (p3 &&& (3 : Int32)), iv (p0.toUInt32.toUInt16.toUInt32.toInt32), .unset, .unset, .unset, .unset, .unset]) rfl ?_
  refine XS.iloadN X0.here hx rfl (hb hby at_9) rfl ?_
  refine XS.i2c X0.here hx rfl (hb hby at_10) rfl ?_
  refine XS.istore X0.here hx rfl (hb hby at_11) rfl (l' := #[iv p0, iv p1, iv p2, iv p3, iv (p3 &&& (3 : Int32)), iv (p0.toUInt32.toUInt16.toUInt32.toInt32), iv (p1.toUInt32.toUInt16.toUInt32.toInt32), .unset, .unset, .unset, .unset]) rfl ?_
  refine XS.iloadN X0.here hx rfl (hb hby at_13) rfl ?_
  refine XS.i2c X0.here hx rfl (hb hby at_14) rfl ?_
  refine XS.istore X0.here hx rfl (hb hby at_15) rfl (l' := #[iv p0, iv p1, iv p2, iv p3, iv (p3 &&& (3 : Int32)), iv (p0.toUInt32.toUInt16.toUInt32.toInt32), iv (p1.toUInt32.toUInt16.toUInt32.toInt32), iv (p2.toUInt32.toUInt16.toUInt32.toInt32), .unset, .unset, .unset]) rfl ?_
  exact kt
 obtain ⟨nn, hnn⟩ : ∃ z : Int32, z = (p3 &&& (3 : Int32)) := ⟨_, rfl⟩
 obtain ⟨c0, hc0⟩ : ∃ z : Int32, z = (p0.toUInt32.toUInt16.toUInt32.toInt32) := ⟨_, rfl⟩
 obtain ⟨c1, hc1⟩ : ∃ z : Int32, z = (p1.toUInt32.toUInt16.toUInt32.toInt32) := ⟨_, rfl⟩
 obtain ⟨c2, hc2⟩ : ∃ z : Int32, z = (p2.toUInt32.toUInt16.toUInt32.toInt32) := ⟨_, rfl⟩
 have G2 : ∀ t, Steps p.tables e below (s₁.setTop (mkF m 17 #[iv p0, iv p1, iv p2, iv p3, iv nn, iv c0, iv c1, iv c2, .unset, .unset, .unset] [])) t → Steps p.tables e below (s₁.setTop (entryFrame m #[(.int p0), (.int p1), (.int p2), (.int p3)] maxLocals)) t := by
  intro t kt
  rw [hnn, hc0, hc1, hc2] at kt
  exact G1 t kt
 have hb0 : 0 ≤ c0.toInt ∧ c0.toInt ≤ 65535 := by have q := c_i2c p0; rw [hc0]; omega
 have hb1 : 0 ≤ c1.toInt ∧ c1.toInt ≤ 65535 := by have q := c_i2c p1; rw [hc1]; omega
 have hb2 : 0 ≤ c2.toInt ∧ c2.toInt ≤ 65535 := by have q := c_i2c p2; rw [hc2]; omega
 have hn4 : 0 ≤ nn.toInt ∧ nn.toInt ≤ 3 := by rw [hnn]; exact own_m3 _
 rcases own_at4 hn4 with rfl | rfl | rfl | rfl
 ·skip
  have G3 : ∀ t, Steps p.tables e below (s₁.setTop (mkF m 19 #[iv p0, iv p1, iv p2, iv p3, iv 0, iv c0, iv c1, iv c2, .unset, .unset, .unset] [(.int (0 : Int32))])) t → Steps p.tables e below (s₁.setTop (entryFrame m #[(.int p0), (.int p1), (.int p2), (.int p3)] maxLocals)) t := by
   intro t kt
   refine G2 _ ?_
   refine XS.iload X0.here hx rfl (hb hby at_17) rfl ?_
   exact kt
  obtain ⟨T4, h4, k4, X4, e4, E4, A4, st4⟩ := newP X0 hx hZ (hq hw 0 rfl) e0 (g := (mkF m 23 #[iv p0, iv p1, iv p2, iv p3, iv 0, iv c0, iv c1, iv c2, .unset, .unset, .unset] [(.int (0 : Int32))])) rfl (hb hby at_23) rfl (by decide) (cap := 0) (by decide) (by decide) (by decide) (by decide)
  obtain ⟨b4, g4⟩ : ∃ z, z = h0.size := ⟨_, rfl⟩
  rw [← g4] at A4 st4
  have g_b4 : n0 ≤ b4 := Nat.le_trans Z0 (Nat.le_of_eq g4.symm)
  have sz_b4 : h0.size ≤ b4 := Nat.le_trans kp0.1 (Nat.le_of_eq g4.symm)
  have ch5 : CHv Z own_EL s.vm h4 := CH0.ext E4
  have cr5 : CHr Z own_EL s.vm h0 s.vm h4 := CR0.trans (CHr.ext E4 CH0)
  have sf5_b4 : Safe Z own_EL s.vm h4 b4 := Safe.ext E4 CH0 (Safe.new (Nat.le_of_eq g4.symm))
  have fa6 := O0.ext E4
  have z7 : n0 ≤ h4.size := Nat.le_trans Z0 E4.1
  have hk := Nat.le_trans hk E4.1
  have kp8 : Keep h0 h4 [] := kp0.ext E4
  have fa9 : Arv Z h4 b4 k4 .char (0 : Int32) [] (.int (0 : Int32)) := (Arv.new A4 (by decide)).pad (pad_rep [] (.int (0 : Int32)) 0)
  obtain ⟨T10, h10, X10, e10, E10, A10, D10, -, st10⟩ := newO X4 hx hZ hown (hq hw 1 rfl) (hq hw 2 rfl) (hq hw 3 rfl) e4 (g := (mkF m 93 #[iv p0, iv p1, iv p2, iv p3, iv 0, iv c0, iv c1, iv c2, rv b4, .unset, .unset] [])) rfl (hb hby at_93) (by decide) (by decide)
  obtain ⟨b10, g10⟩ : ∃ z, z = h4.size := ⟨_, rfl⟩
  rw [← g10] at A10 D10 st10
  have g_b10 : n0 ≤ b10 := Nat.le_trans z7 (Nat.le_of_eq g10.symm)
  have sz_b10 : h0.size ≤ b10 := Nat.le_trans kp8.1 (Nat.le_of_eq g10.symm)
  have ne_b4_b10 : b4 ≠ b10 := Nat.ne_of_lt (Nat.lt_of_lt_of_le fa9.lt (Nat.le_of_eq g10.symm))
  have ch11 : CHv Z own_EL s.vm h10 := ch5.ext E10
  have cr11 : CHr Z own_EL s.vm h0 s.vm h10 := cr5.trans (CHr.ext E10 ch5)
  have sf11_b4 : Safe Z own_EL s.vm h10 b4 := Safe.ext E10 ch5 sf5_b4
  have sf11_b10 : Safe Z own_EL s.vm h10 b10 := Safe.ext E10 ch5 (Safe.new (Nat.le_of_eq g10.symm))
  have fa12 := fa6.ext E10
  have fa13 := fa9.ext E10
  have z14 : n0 ≤ h10.size := Nat.le_trans z7 E10.1
  have hk := Nat.le_trans hk E10.1
  have kp15 : Keep h0 h10 [] := kp8.ext E10
  have fa16 : Fld Z h10 b10 "java/lang/String" "coder" "B" (.int (0 : Int32)) := D10 (Or.inr (hq hw 27 rfl)) (ty := .byte) (by decide)
  have fa17 : Fld Z h10 b10 "java/lang/String" "value" "[B" .null := D10 (Or.inr (hq hw 29 rfl)) (ty := (.array .byte)) (by decide)
  have G18 : ∀ t, Steps p.tables e below (T10.setTop (mkF m 99 #[iv p0, iv p1, iv p2, iv p3, iv 0, iv c0, iv c1, iv c2, rv b4, .unset, .unset] [(.ref b4), (.ref b10), (.ref b10)])) t → Steps p.tables e below (s₁.setTop (entryFrame m #[(.int p0), (.int p1), (.int p2), (.int p3)] maxLocals)) t := by
   intro t kt
   refine G3 _ ?_
   refine XS.ifNo X0.here hx rfl (hb hby at_19) rfl ((if0 _ _).trans (teq (by decide)).2) ?_
   refine XS.iconst X0.here hx rfl (hb hby at_22) ?_
   refine st4 _ ?_
   refine XS.astore X4.here hx rfl (hb hby at_25) rfl rfl (l' := #[iv p0, iv p1, iv p2, iv p3, iv 0, iv c0, iv c1, iv c2, rv b4, .unset, .unset]) rfl ?_
   refine XS.goto X4.here hx rfl (pc0 := 27) (pc' := 93) rfl (hb hby at_27) (by decide) (by decide) ?_
   refine st10 _ ?_
   show Steps p.tables e below (T10.setTop (mkF m 96 #[iv p0, iv p1, iv p2, iv p3, iv 0, iv c0, iv c1, iv c2, rv b4, .unset, .unset] [(.ref b10)])) _
   refine XS.dup X10.here hx rfl (hb hby at_96) rfl rfl ?_
   refine XS.aload X10.here hx rfl (hb hby at_97) rfl rfl ?_
   exact kt
  obtain ⟨_, vm19, ⟨T19, L19, k19, n19⟩, -, X19, hS19, gr19, ⟨Lc19, hQ19, l19, y19, z19, C19⟩, st19⟩ := X10.specialBackS hx (y := (⟨"java/lang/String", "<init>", "([C)V"⟩ : MethodName)) rfl hown (mvT hZ (hq hw 4 rfl)) (mvT hZ (hq hw 5 rfl)) (mvT hZ (hq hw 6 rfl)) (by decide) (backOfSH (s := s) (vm0 := s.vm) (W := 1) (rmSF_0 l Z a0 hw [] b10 b4 k4 h10 n0 z14 A10 fa17 fa16 fa13 g_b10 (Ne.symm ne_b4_b10)) hZ (hq hw 6 rfl) (hq hw 3 rfl) (by decide) (by decide) hEL ch11) (g := (mkF m 99 #[iv p0, iv p1, iv p2, iv p3, iv 0, iv c0, iv c1, iv c2, rv b4, .unset, .unset] [(.ref b4), (.ref b10), (.ref b10)])) rfl (by rw [hml]; rfl) (Steps.refl _) (a := b10) (argsL := [(.ref b4)]) (rest := [(.ref b10)]) (lenOf pd_16 rfl) rfl (by show 2 * 0 + _ ≤ _; exact Nat.le_of_eq rfl) (hb hby at_99) (fun _ _ => ⟨rfl, e10, (by decide : 2 + 4 ≤ _), (by decide : 4 + 8 ≤ _)⟩)
  dsimp only [Pt.U, Pt.locs, Pt.cells, Pt.slots] at X19 l19 y19 z19 st19 hQ19 hS19 gr19 C19
  subst l19 y19 z19
  have hS := hS.trans hS19 (Nat.le_trans hk (by rw [← show T10.heap = h10 from e10]; exact gr19))
  have hZ : Z.Warmed39 (s.setVm T19.vm).vm := State.Warmed39.trans hZ hS19.1
  have hown : (s.setVm T19.vm).vm.findClass "com/example/wary_bearer/warybearer/http/Http1ReaderIsFieldValuePinLaw" = some m.cls := by rw [show (s.setVm T19.vm).vm = T19.vm from rfl, hS19.1.alike.findClass]; exact hown
  have X19 : Stand p l e room_1 (s.setVm T19.vm) m #[(.int p0), (.int p1), (.int p2), (.int p3)] below meth c T19 _ _ _ := X19
  have hk : T19.heap.size ≤ T19.heap.size := Nat.le_refl _
  have cr20 := cr11.trans C19
  have ch20 := C19.1
  have sf20_b4 := C19.safe fa13.lt sf11_b4
  have sf20_b10 := C19.safe A10.lt sf11_b10
  obtain ⟨rfl, N19q, K19, A19, Fc19, ta19, kb19, Fv19, V19⟩ := hQ19
  have N19 := Fr.app N0 N19q
  have fa21 := fa12.keep K19 (allS g_b10 all0)
  have fa22 := fa13.keep K19 (ninS ne_b4_b10 nin0)
  have fa23 := A10.keep K19
  have z24 : n0 ≤ T19.heap.size := Nat.le_trans z14 K19.1
  have kp25 : Keep h0 T19.heap [] := kp15.trans K19 (allS (Or.inr sz_b10) all0)
  have G26 : ∀ t, Steps p.tables e below (T19.setTop (mkF m 107 #[iv p0, iv p1, iv p2, iv p3, iv 0, iv c0, iv c1, iv c2, rv b4, rv b10, .unset] [(.int (1 : Int32)), (.int (0 : Int32))])) t → Steps p.tables e below (s₁.setTop (entryFrame m #[(.int p0), (.int p1), (.int p2), (.int p3)] maxLocals)) t := by
   intro t kt
   refine G18 _ ?_
   refine st19.trans ?_
   refine XS.astore X19.here hx rfl (hb hby at_102) rfl rfl (l' := #[iv p0, iv p1, iv p2, iv p3, iv 0, iv c0, iv c1, iv c2, rv b4, rv b10, .unset]) rfl ?_
   refine XS.iload X19.here hx rfl (hb hby at_104) rfl ?_
   refine XS.iconst X19.here hx rfl (hb hby at_106) ?_
   exact kt
  have G27 : ∀ t, Steps p.tables e below (T19.setTop (mkF m 121 #[iv p0, iv p1, iv p2, iv p3, iv 0, iv c0, iv c1, iv c2, rv b4, rv b10, .unset] [(.int (2 : Int32)), (.int (0 : Int32))])) t → Steps p.tables e below (s₁.setTop (entryFrame m #[(.int p0), (.int p1), (.int p2), (.int p3)] maxLocals)) t := by
   intro t kt
   refine G26 _ ?_
   refine XS.icmpYes X19.here hx rfl (pc0 := 107) (pc' := 118) rfl (hb hby at_107) rfl (tlt (by decide)).1 (by decide) (by decide) ?_
   refine XS.iload X19.here hx rfl (hb hby at_118) rfl ?_
   refine XS.iconst X19.here hx rfl (hb hby at_120) ?_
   exact kt
  have G28 : ∀ t, Steps p.tables e below (T19.setTop (mkF m 135 #[iv p0, iv p1, iv p2, iv p3, iv 0, iv c0, iv c1, iv c2, rv b4, rv b10, .unset] [(.int (3 : Int32)), (.int (0 : Int32))])) t → Steps p.tables e below (s₁.setTop (entryFrame m #[(.int p0), (.int p1), (.int p2), (.int p3)] maxLocals)) t := by
   intro t kt
   refine G27 _ ?_
   refine XS.icmpYes X19.here hx rfl (pc0 := 121) (pc' := 132) rfl (hb hby at_121) rfl (tlt (by decide)).1 (by decide) (by decide) ?_
   refine XS.iload X19.here hx rfl (hb hby at_132) rfl ?_
   refine XS.iconst X19.here hx rfl (hb hby at_134) ?_
   exact kt
  have G29 : ∀ t, Steps p.tables e below (T19.setTop (mkF m 155 #[iv p0, iv p1, iv p2, iv p3, iv 0, iv c0, iv c1, iv c2, rv b4, rv b10, iv 1] [(.ref b10)])) t → Steps p.tables e below (s₁.setTop (entryFrame m #[(.int p0), (.int p1), (.int p2), (.int p3)] maxLocals)) t := by
   intro t kt
   refine G28 _ ?_
   refine XS.icmpYes X19.here hx rfl (pc0 := 135) (pc' := 146) rfl (hb hby at_135) rfl (tlt (by decide)).1 (by decide) (by decide) ?_
   refine XS.iconst X19.here hx rfl (hb hby at_146) ?_
   refine XS.goto X19.here hx rfl (pc0 := 147) (pc' := 151) rfl (hb hby at_147) (by decide) (by decide) ?_
   refine XS.istore X19.here hx rfl (hb hby at_151) rfl (l' := #[iv p0, iv p1, iv p2, iv p3, iv 0, iv c0, iv c1, iv c2, rv b4, rv b10, iv 1]) rfl ?_
   refine XS.aload X19.here hx rfl (hb hby at_153) rfl rfl ?_
   exact kt
  obtain ⟨_, _, ⟨T30, L30, k30, n30⟩, -, X30, ⟨Lc30, hQ30, l30, y30, z30⟩, st30⟩ := Jvm.LawKit.callS X19 hx (y := (⟨"com/example/wary_bearer/warybearer/http/Http1Reader", "isFieldValue", "(Ljava/lang/String;)Z"⟩ : MethodName)) hown (mvT hZ (hq hw 34 rfl)) (mvT hZ (hq hw 35 rfl)) (mvT hZ (hq hw 36 rfl)) (mvT hZ (hq hw 37 rfl)) (by decide) (backOf (W := 0) (rmFVL0 l Z a0 hw [] b10  ta19 kb19 cst fv T19.heap n0 z24 A19 Fc19 Fv19 V19 fa21  SS) hZ (hq hw 37 rfl) (hq hw 36 rfl) (by decide) (by decide)) (g := (mkF m 155 #[iv p0, iv p1, iv p2, iv p3, iv 0, iv c0, iv c1, iv c2, rv b4, rv b10, iv 1] [(.ref b10)])) rfl (by rw [hml]; rfl) (argsL := [(.ref b10)]) (rest := []) (lenOf pd_17 rfl) rfl (by show 2 * 0 + _ ≤ _; exact Nat.le_of_eq rfl) (hb hby at_155) (fun _ _ => ⟨rfl, rfl, (by decide : 6 + 0 ≤ _), (by decide : 12 + 0 ≤ _)⟩)
  dsimp only [Pt.U, Pt.locs, Pt.cells, Pt.slots] at X30 l30 y30 z30 st30 hQ30
  subst l30 y30 z30
  obtain ⟨rfl, N30q, eh30⟩ := hQ30
  have N30 := Fr.app N19 N30q
  have G31 : ∀ t, Steps p.tables e below (T30.setTop (mkF m 160 #[iv p0, iv p1, iv p2, iv p3, iv 0, iv c0, iv c1, iv c2, rv b4, rv b10, iv 1] [(.int (1 : Int32)), (.int (own_fv []))])) t → Steps p.tables e below (s₁.setTop (entryFrame m #[(.int p0), (.int p1), (.int p2), (.int p3)] maxLocals)) t := by
   intro t kt
   refine G29 _ ?_
   refine st30 _ ?_
   refine XS.iload X30.here hx rfl (hb hby at_158) rfl ?_
   exact kt
  have hc160_32 : (own_fv []) = (1 : Int32) := by rw [own_fv]
  obtain ⟨fs, hr, hrun, hended, hRW⟩ := X30.leaveW (s := s) hS (by rw [show T30.heap = T19.heap from eh30]; exact hk) (v := some (.int (1 : Int32))) (fun h => by rw [Bd.returns] at h; cases h) (BodyLoose.notSynchronized Bd)
  refine ⟨_, _, G31 _ ?_, hrun, hended, _, _, rfl, ?_, hRW.1, hRW.2.1, hRW.2.2.1, hRW.2.2.2.mono (by decide) (by decide)⟩
  ·skip
   refine XS.icmpNo X30.here hx rfl (hb hby at_160) rfl (teq hc160_32).2 ?_
   refine XS.iconst X30.here hx rfl (hb hby at_163) ?_
   refine XS.goto X30.here hx rfl (pc0 := 164) (pc' := 168) rfl (hb hby at_164) (by decide) (by decide) ?_
   exact retN X30 hx (t := .boolean) Bd.returns (by simp) (hb hby at_168) hr
  ·show Q0 Z p0 p1 p2 p3 cst fv h0 n0 _ T30.heap _
   rw [eh30]
   exact ⟨rfl, N30⟩
 ·skip
  have G33 : ∀ t, Steps p.tables e below (s₁.setTop (mkF m 19 #[iv p0, iv p1, iv p2, iv p3, iv 1, iv c0, iv c1, iv c2, .unset, .unset, .unset] [(.int (1 : Int32))])) t → Steps p.tables e below (s₁.setTop (entryFrame m #[(.int p0), (.int p1), (.int p2), (.int p3)] maxLocals)) t := by
   intro t kt
   refine G2 _ ?_
   refine XS.iload X0.here hx rfl (hb hby at_17) rfl ?_
   exact kt
  have G34 : ∀ t, Steps p.tables e below (s₁.setTop (mkF m 33 #[iv p0, iv p1, iv p2, iv p3, iv 1, iv c0, iv c1, iv c2, .unset, .unset, .unset] [(.int (1 : Int32)), (.int (1 : Int32))])) t → Steps p.tables e below (s₁.setTop (entryFrame m #[(.int p0), (.int p1), (.int p2), (.int p3)] maxLocals)) t := by
   intro t kt
   refine G33 _ ?_
   refine XS.ifYes X0.here hx rfl (pc0 := 19) (pc' := 30) rfl (hb hby at_19) rfl ((if0 _ _).trans (feq (by decide)).2) (by decide) (by decide) ?_
   refine XS.iload X0.here hx rfl (hb hby at_30) rfl ?_
   refine XS.iconst X0.here hx rfl (hb hby at_32) ?_
   exact kt
  obtain ⟨T35, h35, k35, X35, e35, E35, A35, st35⟩ := newP X0 hx hZ (hq hw 0 rfl) e0 (g := (mkF m 37 #[iv p0, iv p1, iv p2, iv p3, iv 1, iv c0, iv c1, iv c2, .unset, .unset, .unset] [(.int (1 : Int32))])) rfl (hb hby at_37) rfl (by decide) (cap := 1) (by decide) (by decide) (by decide) (by decide)
  obtain ⟨b35, g35⟩ : ∃ z, z = h0.size := ⟨_, rfl⟩
  rw [← g35] at A35 st35
  have g_b35 : n0 ≤ b35 := Nat.le_trans Z0 (Nat.le_of_eq g35.symm)
  have sz_b35 : h0.size ≤ b35 := Nat.le_trans kp0.1 (Nat.le_of_eq g35.symm)
  have ch36 : CHv Z own_EL s.vm h35 := CH0.ext E35
  have cr36 : CHr Z own_EL s.vm h0 s.vm h35 := CR0.trans (CHr.ext E35 CH0)
  have sf36_b35 : Safe Z own_EL s.vm h35 b35 := Safe.ext E35 CH0 (Safe.new (Nat.le_of_eq g35.symm))
  have fa37 := O0.ext E35
  have z38 : n0 ≤ h35.size := Nat.le_trans Z0 E35.1
  have hk := Nat.le_trans hk E35.1
  have kp39 : Keep h0 h35 [] := kp0.ext E35
  have fa40 : Arv Z h35 b35 k35 .char (1 : Int32) [(.int (0 : Int32))] (.int (0 : Int32)) := (Arv.new A35 (by decide)).pad (pad_rep [] (.int (0 : Int32)) 1)
  obtain ⟨cl41, Ar41, q41, S41, M41, H41, G41⟩ := id fa40
  have hin41 : ¬ ((0 : Int32) < 0 ∨ cl41.slots.size ≤ ((0 : Int32)).toNatClampNeg) := inb_of S41 ⟨by decide, by decide⟩
  obtain ⟨T42, h42, X42, e42, W42, st42⟩ := stC X35 hx hZ e35 Ar41 (j := (0 : Int32)) hin41 (g := (mkF m 43 #[iv p0, iv p1, iv p2, iv p3, iv 1, iv c0, iv c1, iv c2, .unset, .unset, .unset] [(.int c0), (.int (0 : Int32)), (.ref b35), (.ref b35)])) rfl rfl (hb hby at_43)
  have ch43 : CHv Z own_EL s.vm h42 := ch36.wr W42 sf36_b35
  have cr43 : CHr Z own_EL s.vm h0 s.vm h42 := cr36.trans (CHr.wr W42 sf36_b35 ch36)
  have sf43_b35 : Safe Z own_EL s.vm h42 b35 := Safe.wr W42 sf36_b35 ch36 sf36_b35
  have fa44 := fa37.wr W42 g_b35
  have z45 : n0 ≤ h42.size := Nat.le_trans z38 (Nat.le_of_eq W42.size.symm)
  have hk := Nat.le_trans hk (Nat.le_of_eq W42.size.symm)
  have kp46 : Keep h0 h42 [] := kp39.wr W42 (Or.inr sz_b35)
  have fa47 : Arv Z h42 b35 k35 .char (1 : Int32) [(.int (nar .char c0))] (.int (0 : Int32)) := Arv.set Ar41 q41 S41 M41 H41 G41 (fits_nar_char _) W42 0 rfl (Nat.le_of_ble_eq_true rfl)
  have N42 := Fr.snoc X42 N0 g_b35
  have fa48 : Arv Z h42 b35 k35 .char (1 : Int32) [(.int c0)] (.int (0 : Int32)) := by have q := fa47; rw [own_narc c0 hb0] at q; exact q
  obtain ⟨T49, h49, X49, e49, E49, A49, D49, -, st49⟩ := newO X42 hx hZ hown (hq hw 1 rfl) (hq hw 2 rfl) (hq hw 3 rfl) e42 (g := (mkF m 93 #[iv p0, iv p1, iv p2, iv p3, iv 1, iv c0, iv c1, iv c2, rv b35, .unset, .unset] [])) rfl (hb hby at_93) (by decide) (by decide)
  obtain ⟨b49, g49⟩ : ∃ z, z = h42.size := ⟨_, rfl⟩
  rw [← g49] at A49 D49 st49
  have g_b49 : n0 ≤ b49 := Nat.le_trans z45 (Nat.le_of_eq g49.symm)
  have sz_b49 : h0.size ≤ b49 := Nat.le_trans kp46.1 (Nat.le_of_eq g49.symm)
  have ne_b35_b49 : b35 ≠ b49 := Nat.ne_of_lt (Nat.lt_of_lt_of_le fa48.lt (Nat.le_of_eq g49.symm))
  have ch50 : CHv Z own_EL s.vm h49 := ch43.ext E49
  have cr50 : CHr Z own_EL s.vm h0 s.vm h49 := cr43.trans (CHr.ext E49 ch43)
  have sf50_b35 : Safe Z own_EL s.vm h49 b35 := Safe.ext E49 ch43 sf43_b35
  have sf50_b49 : Safe Z own_EL s.vm h49 b49 := Safe.ext E49 ch43 (Safe.new (Nat.le_of_eq g49.symm))
  have fa51 := fa44.ext E49
  have fa52 := fa48.ext E49
  have z53 : n0 ≤ h49.size := Nat.le_trans z45 E49.1
  have hk := Nat.le_trans hk E49.1
  have kp54 : Keep h0 h49 [] := kp46.ext E49
  have fa55 : Fld Z h49 b49 "java/lang/String" "coder" "B" (.int (0 : Int32)) := D49 (Or.inr (hq hw 27 rfl)) (ty := .byte) (by decide)
  have fa56 : Fld Z h49 b49 "java/lang/String" "value" "[B" .null := D49 (Or.inr (hq hw 29 rfl)) (ty := (.array .byte)) (by decide)
  have G57 : ∀ t, Steps p.tables e below (T49.setTop (mkF m 99 #[iv p0, iv p1, iv p2, iv p3, iv 1, iv c0, iv c1, iv c2, rv b35, .unset, .unset] [(.ref b35), (.ref b49), (.ref b49)])) t → Steps p.tables e below (s₁.setTop (entryFrame m #[(.int p0), (.int p1), (.int p2), (.int p3)] maxLocals)) t := by
   intro t kt
   refine G34 _ ?_
   refine XS.icmpNo X0.here hx rfl (hb hby at_33) rfl (teq (by decide)).2 ?_
   refine XS.iconst X0.here hx rfl (hb hby at_36) ?_
   refine st35 _ ?_
   refine XS.dup X35.here hx rfl (hb hby at_39) rfl rfl ?_
   show Steps p.tables e below (T35.setTop (mkF m 40 #[iv p0, iv p1, iv p2, iv p3, iv 1, iv c0, iv c1, iv c2, .unset, .unset, .unset] [(.ref b35), (.ref b35)])) _
   refine XS.iconst X35.here hx rfl (hb hby at_40) ?_
   refine XS.iload X35.here hx rfl (hb hby at_41) rfl ?_
   refine st42 _ ?_
   refine XS.astore X42.here hx rfl (hb hby at_44) rfl rfl (l' := #[iv p0, iv p1, iv p2, iv p3, iv 1, iv c0, iv c1, iv c2, rv b35, .unset, .unset]) rfl ?_
   refine XS.goto X42.here hx rfl (pc0 := 46) (pc' := 93) rfl (hb hby at_46) (by decide) (by decide) ?_
   refine st49 _ ?_
   refine XS.dup X49.here hx rfl (hb hby at_96) rfl rfl ?_
   refine XS.aload X49.here hx rfl (hb hby at_97) rfl rfl ?_
   exact kt
  obtain ⟨_, _, ⟨T58, L58, k58, n58⟩, -, X58, ⟨Lc58, hQ58, l58, y58, z58⟩, st58⟩ := X49.specialBack hx (y := (⟨"java/lang/String", "<init>", "([C)V"⟩ : MethodName)) rfl hown (mvT hZ (hq hw 4 rfl)) (mvT hZ (hq hw 5 rfl)) (mvT hZ (hq hw 6 rfl)) (by decide) (backOf (W := 1) (rmSF_1 l Z a0 hw [] b49 b35 c0 k35 cst fv h49 n0 z53 A49 fa56 fa55 fa52 fa51 g_b49 (Ne.symm ne_b35_b49) hb0 SS) hZ (hq hw 6 rfl) (hq hw 3 rfl) (by decide) (by decide)) (g := (mkF m 99 #[iv p0, iv p1, iv p2, iv p3, iv 1, iv c0, iv c1, iv c2, rv b35, .unset, .unset] [(.ref b35), (.ref b49), (.ref b49)])) rfl (by rw [hml]; rfl) (Steps.refl _) (a := b49) (argsL := [(.ref b35)]) (rest := [(.ref b49)]) (lenOf pd_16 rfl) rfl (by show 2 * 0 + _ ≤ _; exact Nat.le_of_eq rfl) (hb hby at_99) (fun _ _ => ⟨rfl, e49, (by decide : 2 + 2 ≤ _), (by decide : 5 + 3 ≤ _)⟩)
  dsimp only [Pt.U, Pt.locs, Pt.cells, Pt.slots] at X58 l58 y58 z58 st58 hQ58
  subst l58 y58 z58
  rcases hQ58 with ⟨rfl, N58q, K58, A58, hq58, Fc58, ta58, kb58, Fv58, sz58, g_ta58, V58⟩ | ⟨rfl, N58q, K58, A58, hq58, Fc58, ta58, kb58, Fv58, sz58, g_ta58, V58⟩
  ·skip
   have N58 := Fr.app N42 N58q
   have szk58 : h0.size ≤ ta58 := Nat.le_trans kp54.1 sz58
   have ne_b35_ta58 : b35 ≠ ta58 := Nat.ne_of_lt (Nat.lt_of_lt_of_le fa52.lt sz58)
   have ne_b49_ta58 : b49 ≠ ta58 := Nat.ne_of_lt (Nat.lt_of_lt_of_le A49.lt sz58)
   have ch59 : CHv Z own_EL s.vm T58.heap := ch50.keep K58 (allS sf50_b49 all0)
   have cr59 : CHr Z own_EL s.vm h0 s.vm T58.heap := cr50.trans (CHr.keep K58 (allS sf50_b49 all0) ch50)
   have sf59_b35 : Safe Z own_EL s.vm T58.heap b35 := Safe.keep K58 (allS sf50_b49 all0) ch50 sf50_b35
   have sf59_b49 : Safe Z own_EL s.vm T58.heap b49 := Safe.keep K58 (allS sf50_b49 all0) ch50 sf50_b49
   have fa60 := fa51.keep K58 (allS g_b49 all0)
   have fa61 := fa52.keep K58 (ninS ne_b35_b49 nin0)
   have fa62 := A49.keep K58
   have z63 : n0 ≤ T58.heap.size := Nat.le_trans z53 K58.1
   have hk := Nat.le_trans hk K58.1
   have kp64 : Keep h0 T58.heap [] := kp54.trans K58 (allS (Or.inr sz_b49) all0)
   have G65 : ∀ t, Steps p.tables e below (T58.setTop (mkF m 107 #[iv p0, iv p1, iv p2, iv p3, iv 1, iv c0, iv c1, iv c2, rv b35, rv b49, .unset] [(.int (1 : Int32)), (.int (1 : Int32))])) t → Steps p.tables e below (s₁.setTop (entryFrame m #[(.int p0), (.int p1), (.int p2), (.int p3)] maxLocals)) t := by
    intro t kt
    refine G57 _ ?_
    refine st58.trans ?_
    refine XS.astore X58.here hx rfl (hb hby at_102) rfl rfl (l' := #[iv p0, iv p1, iv p2, iv p3, iv 1, iv c0, iv c1, iv c2, rv b35, rv b49, .unset]) rfl ?_
    refine XS.iload X58.here hx rfl (hb hby at_104) rfl ?_
    refine XS.iconst X58.here hx rfl (hb hby at_106) ?_
    exact kt
   have G66 : ∀ t, Steps p.tables e below (T58.setTop (mkF m 112 #[iv p0, iv p1, iv p2, iv p3, iv 1, iv c0, iv c1, iv c2, rv b35, rv b49, .unset] [(.int c0)])) t → Steps p.tables e below (s₁.setTop (entryFrame m #[(.int p0), (.int p1), (.int p2), (.int p3)] maxLocals)) t := by
    intro t kt
    refine G65 _ ?_
    refine XS.icmpNo X58.here hx rfl (hb hby at_107) rfl (flt (by decide)).1 ?_
    refine XS.iload X58.here hx rfl (hb hby at_110) rfl ?_
    exact kt
   obtain ⟨_, _, ⟨T67, L67, k67, n67⟩, -, X67, ⟨Lc67, hQ67, l67, y67, z67⟩, st67⟩ := Jvm.LawKit.callS X58 hx (y := (⟨"com/example/wary_bearer/warybearer/http/Http1ReaderIsFieldValuePinLaw", "allowed", "(C)Z"⟩ : MethodName)) hown (mvT hZ (hq hw 30 rfl)) (mvT hZ (hq hw 31 rfl)) (mvT hZ (hq hw 32 rfl)) (mvT hZ (hq hw 33 rfl)) (by decide) (backOf (W := 0) (rm7 l Z a0 hw [] c0  T58.heap n0 z63 ) hZ (hq hw 33 rfl) (hq hw 32 rfl) (by decide) (by decide)) (g := (mkF m 112 #[iv p0, iv p1, iv p2, iv p3, iv 1, iv c0, iv c1, iv c2, rv b35, rv b49, .unset] [(.int c0)])) rfl (by rw [hml]; rfl) (argsL := [(.int c0)]) (rest := []) (lenOf pd_18 rfl) rfl (by show 2 * 0 + _ ≤ _; exact Nat.le_of_eq rfl) (hb hby at_112) (fun _ _ => ⟨rfl, rfl, (by decide : 4 + 0 ≤ _), (by decide : 8 + 0 ≤ _)⟩)
   dsimp only [Pt.U, Pt.locs, Pt.cells, Pt.slots] at X67 l67 y67 z67 st67 hQ67
   subst l67 y67 z67
   obtain ⟨rfl, N67q, eh67⟩ := hQ67
   have N67 := Fr.app N58 N67q
   have G68 : ∀ t, Steps p.tables e below (T67.setTop (mkF m 115 #[iv p0, iv p1, iv p2, iv p3, iv 1, iv c0, iv c1, iv c2, rv b35, rv b49, .unset] [(.int (fal c0))])) t → Steps p.tables e below (s₁.setTop (entryFrame m #[(.int p0), (.int p1), (.int p2), (.int p3)] maxLocals)) t := by
    intro t kt
    refine G66 _ ?_
    refine st67 _ ?_
    exact kt
   by_cases hc115_69 : (fal c0) = (0 : Int32)
   ·skip
    have G70 : ∀ t, Steps p.tables e below (T67.setTop (mkF m 155 #[iv p0, iv p1, iv p2, iv p3, iv 1, iv c0, iv c1, iv c2, rv b35, rv b49, iv 0] [(.ref b49)])) t → Steps p.tables e below (s₁.setTop (entryFrame m #[(.int p0), (.int p1), (.int p2), (.int p3)] maxLocals)) t := by
     intro t kt
     refine G68 _ ?_
     refine XS.ifYes X67.here hx rfl (pc0 := 115) (pc' := 150) rfl (hb hby at_115) rfl ((if0 _ _).trans (teq hc115_69).1) (by decide) (by decide) ?_
     refine XS.iconst X67.here hx rfl (hb hby at_150) ?_
     refine XS.istore X67.here hx rfl (hb hby at_151) rfl (l' := #[iv p0, iv p1, iv p2, iv p3, iv 1, iv c0, iv c1, iv c2, rv b35, rv b49, iv 0]) rfl ?_
     refine XS.aload X67.here hx rfl (hb hby at_153) rfl rfl ?_
     exact kt
    obtain ⟨_, _, ⟨T71, L71, k71, n71⟩, -, X71, ⟨Lc71, hQ71, l71, y71, z71⟩, st71⟩ := Jvm.LawKit.callS X67 hx (y := (⟨"com/example/wary_bearer/warybearer/http/Http1Reader", "isFieldValue", "(Ljava/lang/String;)Z"⟩ : MethodName)) hown (mvT hZ (hq hw 34 rfl)) (mvT hZ (hq hw 35 rfl)) (mvT hZ (hq hw 36 rfl)) (mvT hZ (hq hw 37 rfl)) (by decide) (backOf (W := 0) (rmFVL1 l Z a0 hw [] b49 c0 ta58 kb58 cst fv T58.heap n0 z63 A58 Fc58 Fv58 V58 fa60 hb0 hq58 SS) hZ (hq hw 37 rfl) (hq hw 36 rfl) (by decide) (by decide)) (g := (mkF m 155 #[iv p0, iv p1, iv p2, iv p3, iv 1, iv c0, iv c1, iv c2, rv b35, rv b49, iv 0] [(.ref b49)])) rfl (by rw [hml]; rfl) (argsL := [(.ref b49)]) (rest := []) (lenOf pd_17 rfl) rfl (by show 2 * 0 + _ ≤ _; exact Nat.le_of_eq rfl) (hb hby at_155) (fun _ _ => ⟨rfl, eh67, (by decide : 4 + 0 ≤ _), (by decide : 8 + 0 ≤ _)⟩)
    dsimp only [Pt.U, Pt.locs, Pt.cells, Pt.slots] at X71 l71 y71 z71 st71 hQ71
    subst l71 y71 z71
    obtain ⟨rfl, N71q, eh71⟩ := hQ71
    have N71 := Fr.app N67 N71q
    have G72 : ∀ t, Steps p.tables e below (T71.setTop (mkF m 160 #[iv p0, iv p1, iv p2, iv p3, iv 1, iv c0, iv c1, iv c2, rv b35, rv b49, iv 0] [(.int (0 : Int32)), (.int (own_fv [c0]))])) t → Steps p.tables e below (s₁.setTop (entryFrame m #[(.int p0), (.int p1), (.int p2), (.int p3)] maxLocals)) t := by
     intro t kt
     refine G70 _ ?_
     refine st71 _ ?_
     refine XS.iload X71.here hx rfl (hb hby at_158) rfl ?_
     exact kt
    have hc160_73 : (own_fv [c0]) = (0 : Int32) := by rw [own_fv, if_pos hc115_69]
    obtain ⟨fs, hr, hrun, hended, hRW⟩ := X71.leaveW (s := s) hS (by rw [show T71.heap = T58.heap from eh71]; exact hk) (v := some (.int (1 : Int32))) (fun h => by rw [Bd.returns] at h; cases h) (BodyLoose.notSynchronized Bd)
    refine ⟨_, _, G72 _ ?_, hrun, hended, _, _, rfl, ?_, hRW.1, hRW.2.1, hRW.2.2.1, hRW.2.2.2.mono (by decide) (by decide)⟩
    ·skip
     refine XS.icmpNo X71.here hx rfl (hb hby at_160) rfl (teq hc160_73).2 ?_
     refine XS.iconst X71.here hx rfl (hb hby at_163) ?_
     show Steps p.tables e below (T71.setTop (mkF m 164 #[iv p0, iv p1, iv p2, iv p3, iv 1, iv c0, iv c1, iv c2, rv b35, rv b49, iv 0] [(.int (1 : Int32))])) _
     refine XS.goto X71.here hx rfl (pc0 := 164) (pc' := 168) rfl (hb hby at_164) (by decide) (by decide) ?_
     exact retN X71 hx (t := .boolean) Bd.returns (by simp) (hb hby at_168) hr
    ·show Q0 Z p0 p1 p2 p3 cst fv h0 n0 _ T71.heap _
     rw [eh71]
     exact ⟨rfl, N71⟩
   ·skip
    have G74 : ∀ t, Steps p.tables e below (T67.setTop (mkF m 121 #[iv p0, iv p1, iv p2, iv p3, iv 1, iv c0, iv c1, iv c2, rv b35, rv b49, .unset] [(.int (2 : Int32)), (.int (1 : Int32))])) t → Steps p.tables e below (s₁.setTop (entryFrame m #[(.int p0), (.int p1), (.int p2), (.int p3)] maxLocals)) t := by
     intro t kt
     refine G68 _ ?_
     refine XS.ifNo X67.here hx rfl (hb hby at_115) rfl ((if0 _ _).trans (feq hc115_69).1) ?_
     refine XS.iload X67.here hx rfl (hb hby at_118) rfl ?_
     refine XS.iconst X67.here hx rfl (hb hby at_120) ?_
     exact kt
    have G75 : ∀ t, Steps p.tables e below (T67.setTop (mkF m 135 #[iv p0, iv p1, iv p2, iv p3, iv 1, iv c0, iv c1, iv c2, rv b35, rv b49, .unset] [(.int (3 : Int32)), (.int (1 : Int32))])) t → Steps p.tables e below (s₁.setTop (entryFrame m #[(.int p0), (.int p1), (.int p2), (.int p3)] maxLocals)) t := by
     intro t kt
     refine G74 _ ?_
     refine XS.icmpYes X67.here hx rfl (pc0 := 121) (pc' := 132) rfl (hb hby at_121) rfl (tlt (by decide)).1 (by decide) (by decide) ?_
     refine XS.iload X67.here hx rfl (hb hby at_132) rfl ?_
     refine XS.iconst X67.here hx rfl (hb hby at_134) ?_
     exact kt
    have G76 : ∀ t, Steps p.tables e below (T67.setTop (mkF m 155 #[iv p0, iv p1, iv p2, iv p3, iv 1, iv c0, iv c1, iv c2, rv b35, rv b49, iv 1] [(.ref b49)])) t → Steps p.tables e below (s₁.setTop (entryFrame m #[(.int p0), (.int p1), (.int p2), (.int p3)] maxLocals)) t := by
     intro t kt
     refine G75 _ ?_
     refine XS.icmpYes X67.here hx rfl (pc0 := 135) (pc' := 146) rfl (hb hby at_135) rfl (tlt (by decide)).1 (by decide) (by decide) ?_
     refine XS.iconst X67.here hx rfl (hb hby at_146) ?_
     refine XS.goto X67.here hx rfl (pc0 := 147) (pc' := 151) rfl (hb hby at_147) (by decide) (by decide) ?_
     show Steps p.tables e below (T67.setTop (mkF m 151 #[iv p0, iv p1, iv p2, iv p3, iv 1, iv c0, iv c1, iv c2, rv b35, rv b49, .unset] [(.int (1 : Int32))])) _
     refine XS.istore X67.here hx rfl (hb hby at_151) rfl (l' := #[iv p0, iv p1, iv p2, iv p3, iv 1, iv c0, iv c1, iv c2, rv b35, rv b49, iv 1]) rfl ?_
     refine XS.aload X67.here hx rfl (hb hby at_153) rfl rfl ?_
     exact kt
    obtain ⟨_, _, ⟨T77, L77, k77, n77⟩, -, X77, ⟨Lc77, hQ77, l77, y77, z77⟩, st77⟩ := Jvm.LawKit.callS X67 hx (y := (⟨"com/example/wary_bearer/warybearer/http/Http1Reader", "isFieldValue", "(Ljava/lang/String;)Z"⟩ : MethodName)) hown (mvT hZ (hq hw 34 rfl)) (mvT hZ (hq hw 35 rfl)) (mvT hZ (hq hw 36 rfl)) (mvT hZ (hq hw 37 rfl)) (by decide) (backOf (W := 0) (rmFVL1 l Z a0 hw [] b49 c0 ta58 kb58 cst fv T58.heap n0 z63 A58 Fc58 Fv58 V58 fa60 hb0 hq58 SS) hZ (hq hw 37 rfl) (hq hw 36 rfl) (by decide) (by decide)) (g := (mkF m 155 #[iv p0, iv p1, iv p2, iv p3, iv 1, iv c0, iv c1, iv c2, rv b35, rv b49, iv 1] [(.ref b49)])) rfl (by rw [hml]; rfl) (argsL := [(.ref b49)]) (rest := []) (lenOf pd_17 rfl) rfl (by show 2 * 0 + _ ≤ _; exact Nat.le_of_eq rfl) (hb hby at_155) (fun _ _ => ⟨rfl, eh67, (by decide : 4 + 0 ≤ _), (by decide : 8 + 0 ≤ _)⟩)
    dsimp only [Pt.U, Pt.locs, Pt.cells, Pt.slots] at X77 l77 y77 z77 st77 hQ77
    subst l77 y77 z77
    obtain ⟨rfl, N77q, eh77⟩ := hQ77
    have N77 := Fr.app N67 N77q
    have G78 : ∀ t, Steps p.tables e below (T77.setTop (mkF m 160 #[iv p0, iv p1, iv p2, iv p3, iv 1, iv c0, iv c1, iv c2, rv b35, rv b49, iv 1] [(.int (1 : Int32)), (.int (own_fv [c0]))])) t → Steps p.tables e below (s₁.setTop (entryFrame m #[(.int p0), (.int p1), (.int p2), (.int p3)] maxLocals)) t := by
     intro t kt
     refine G76 _ ?_
     refine st77 _ ?_
     refine XS.iload X77.here hx rfl (hb hby at_158) rfl ?_
     exact kt
    have hc160_79 : (own_fv [c0]) = (1 : Int32) := by rw [own_fv, if_neg hc115_69, own_fv]
    obtain ⟨fs, hr, hrun, hended, hRW⟩ := X77.leaveW (s := s) hS (by rw [show T77.heap = T58.heap from eh77]; exact hk) (v := some (.int (1 : Int32))) (fun h => by rw [Bd.returns] at h; cases h) (BodyLoose.notSynchronized Bd)
    refine ⟨_, _, G78 _ ?_, hrun, hended, _, _, rfl, ?_, hRW.1, hRW.2.1, hRW.2.2.1, hRW.2.2.2.mono (by decide) (by decide)⟩
    ·skip
     refine XS.icmpNo X77.here hx rfl (hb hby at_160) rfl (teq hc160_79).2 ?_
     refine XS.iconst X77.here hx rfl (hb hby at_163) ?_
     refine XS.goto X77.here hx rfl (pc0 := 164) (pc' := 168) rfl (hb hby at_164) (by decide) (by decide) ?_
     exact retN X77 hx (t := .boolean) Bd.returns (by simp) (hb hby at_168) hr
    ·show Q0 Z p0 p1 p2 p3 cst fv h0 n0 _ T77.heap _
     rw [eh77]
     exact ⟨rfl, N77⟩
  ·skip
   have N58 := Fr.app N42 N58q
   have szk58 : h0.size ≤ ta58 := Nat.le_trans kp54.1 sz58
   have ne_b35_ta58 : b35 ≠ ta58 := Nat.ne_of_lt (Nat.lt_of_lt_of_le fa52.lt sz58)
   have ne_b49_ta58 : b49 ≠ ta58 := Nat.ne_of_lt (Nat.lt_of_lt_of_le A49.lt sz58)
   have ch80 : CHv Z own_EL s.vm T58.heap := ch50.keep K58 (allS sf50_b49 all0)
   have cr80 : CHr Z own_EL s.vm h0 s.vm T58.heap := cr50.trans (CHr.keep K58 (allS sf50_b49 all0) ch50)
   have sf80_b35 : Safe Z own_EL s.vm T58.heap b35 := Safe.keep K58 (allS sf50_b49 all0) ch50 sf50_b35
   have sf80_b49 : Safe Z own_EL s.vm T58.heap b49 := Safe.keep K58 (allS sf50_b49 all0) ch50 sf50_b49
   have fa81 := fa51.keep K58 (allS g_b49 all0)
   have fa82 := fa52.keep K58 (ninS ne_b35_b49 nin0)
   have fa83 := A49.keep K58
   have z84 : n0 ≤ T58.heap.size := Nat.le_trans z53 K58.1
   have hk := Nat.le_trans hk K58.1
   have kp85 : Keep h0 T58.heap [] := kp54.trans K58 (allS (Or.inr sz_b49) all0)
   have G86 : ∀ t, Steps p.tables e below (T58.setTop (mkF m 107 #[iv p0, iv p1, iv p2, iv p3, iv 1, iv c0, iv c1, iv c2, rv b35, rv b49, .unset] [(.int (1 : Int32)), (.int (1 : Int32))])) t → Steps p.tables e below (s₁.setTop (entryFrame m #[(.int p0), (.int p1), (.int p2), (.int p3)] maxLocals)) t := by
    intro t kt
    refine G57 _ ?_
    refine st58.trans ?_
    refine XS.astore X58.here hx rfl (hb hby at_102) rfl rfl (l' := #[iv p0, iv p1, iv p2, iv p3, iv 1, iv c0, iv c1, iv c2, rv b35, rv b49, .unset]) rfl ?_
    refine XS.iload X58.here hx rfl (hb hby at_104) rfl ?_
    refine XS.iconst X58.here hx rfl (hb hby at_106) ?_
    exact kt
   have G87 : ∀ t, Steps p.tables e below (T58.setTop (mkF m 112 #[iv p0, iv p1, iv p2, iv p3, iv 1, iv c0, iv c1, iv c2, rv b35, rv b49, .unset] [(.int c0)])) t → Steps p.tables e below (s₁.setTop (entryFrame m #[(.int p0), (.int p1), (.int p2), (.int p3)] maxLocals)) t := by
    intro t kt
    refine G86 _ ?_
    refine XS.icmpNo X58.here hx rfl (hb hby at_107) rfl (flt (by decide)).1 ?_
    refine XS.iload X58.here hx rfl (hb hby at_110) rfl ?_
    exact kt
   obtain ⟨_, _, ⟨T88, L88, k88, n88⟩, -, X88, ⟨Lc88, hQ88, l88, y88, z88⟩, st88⟩ := Jvm.LawKit.callS X58 hx (y := (⟨"com/example/wary_bearer/warybearer/http/Http1ReaderIsFieldValuePinLaw", "allowed", "(C)Z"⟩ : MethodName)) hown (mvT hZ (hq hw 30 rfl)) (mvT hZ (hq hw 31 rfl)) (mvT hZ (hq hw 32 rfl)) (mvT hZ (hq hw 33 rfl)) (by decide) (backOf (W := 0) (rm7 l Z a0 hw [] c0  T58.heap n0 z84 ) hZ (hq hw 33 rfl) (hq hw 32 rfl) (by decide) (by decide)) (g := (mkF m 112 #[iv p0, iv p1, iv p2, iv p3, iv 1, iv c0, iv c1, iv c2, rv b35, rv b49, .unset] [(.int c0)])) rfl (by rw [hml]; rfl) (argsL := [(.int c0)]) (rest := []) (lenOf pd_18 rfl) rfl (by show 2 * 0 + _ ≤ _; exact Nat.le_of_eq rfl) (hb hby at_112) (fun _ _ => ⟨rfl, rfl, (by decide : 4 + 0 ≤ _), (by decide : 8 + 0 ≤ _)⟩)
   dsimp only [Pt.U, Pt.locs, Pt.cells, Pt.slots] at X88 l88 y88 z88 st88 hQ88
   subst l88 y88 z88
   obtain ⟨rfl, N88q, eh88⟩ := hQ88
   have N88 := Fr.app N58 N88q
   have G89 : ∀ t, Steps p.tables e below (T88.setTop (mkF m 115 #[iv p0, iv p1, iv p2, iv p3, iv 1, iv c0, iv c1, iv c2, rv b35, rv b49, .unset] [(.int (fal c0))])) t → Steps p.tables e below (s₁.setTop (entryFrame m #[(.int p0), (.int p1), (.int p2), (.int p3)] maxLocals)) t := by
    intro t kt
    refine G87 _ ?_
    refine st88 _ ?_
    exact kt
   by_cases hc115_90 : (fal c0) = (0 : Int32)
   ·skip
    have G91 : ∀ t, Steps p.tables e below (T88.setTop (mkF m 155 #[iv p0, iv p1, iv p2, iv p3, iv 1, iv c0, iv c1, iv c2, rv b35, rv b49, iv 0] [(.ref b49)])) t → Steps p.tables e below (s₁.setTop (entryFrame m #[(.int p0), (.int p1), (.int p2), (.int p3)] maxLocals)) t := by
     intro t kt
     refine G89 _ ?_
     refine XS.ifYes X88.here hx rfl (pc0 := 115) (pc' := 150) rfl (hb hby at_115) rfl ((if0 _ _).trans (teq hc115_90).1) (by decide) (by decide) ?_
     refine XS.iconst X88.here hx rfl (hb hby at_150) ?_
     refine XS.istore X88.here hx rfl (hb hby at_151) rfl (l' := #[iv p0, iv p1, iv p2, iv p3, iv 1, iv c0, iv c1, iv c2, rv b35, rv b49, iv 0]) rfl ?_
     refine XS.aload X88.here hx rfl (hb hby at_153) rfl rfl ?_
     exact kt
    obtain ⟨_, _, ⟨T92, L92, k92, n92⟩, -, X92, ⟨Lc92, hQ92, l92, y92, z92⟩, st92⟩ := Jvm.LawKit.callS X88 hx (y := (⟨"com/example/wary_bearer/warybearer/http/Http1Reader", "isFieldValue", "(Ljava/lang/String;)Z"⟩ : MethodName)) hown (mvT hZ (hq hw 34 rfl)) (mvT hZ (hq hw 35 rfl)) (mvT hZ (hq hw 36 rfl)) (mvT hZ (hq hw 37 rfl)) (by decide) (backOf (W := 0) (rmFVU1 l Z a0 hw [] b49 c0 ta58 kb58 cst fv T58.heap n0 z84 A58 Fc58 Fv58 V58 fa81 hb0 SS) hZ (hq hw 37 rfl) (hq hw 36 rfl) (by decide) (by decide)) (g := (mkF m 155 #[iv p0, iv p1, iv p2, iv p3, iv 1, iv c0, iv c1, iv c2, rv b35, rv b49, iv 0] [(.ref b49)])) rfl (by rw [hml]; rfl) (argsL := [(.ref b49)]) (rest := []) (lenOf pd_17 rfl) rfl (by show 2 * 0 + _ ≤ _; exact Nat.le_of_eq rfl) (hb hby at_155) (fun _ _ => ⟨rfl, eh88, (by decide : 4 + 0 ≤ _), (by decide : 8 + 0 ≤ _)⟩)
    dsimp only [Pt.U, Pt.locs, Pt.cells, Pt.slots] at X92 l92 y92 z92 st92 hQ92
    subst l92 y92 z92
    obtain ⟨rfl, N92q, eh92⟩ := hQ92
    have N92 := Fr.app N88 N92q
    have G93 : ∀ t, Steps p.tables e below (T92.setTop (mkF m 160 #[iv p0, iv p1, iv p2, iv p3, iv 1, iv c0, iv c1, iv c2, rv b35, rv b49, iv 0] [(.int (0 : Int32)), (.int (own_fv [c0]))])) t → Steps p.tables e below (s₁.setTop (entryFrame m #[(.int p0), (.int p1), (.int p2), (.int p3)] maxLocals)) t := by
     intro t kt
     refine G91 _ ?_
     refine st92 _ ?_
     refine XS.iload X92.here hx rfl (hb hby at_158) rfl ?_
     exact kt
    have hc160_94 : (own_fv [c0]) = (0 : Int32) := by rw [own_fv, if_pos hc115_90]
    obtain ⟨fs, hr, hrun, hended, hRW⟩ := X92.leaveW (s := s) hS (by rw [show T92.heap = T58.heap from eh92]; exact hk) (v := some (.int (1 : Int32))) (fun h => by rw [Bd.returns] at h; cases h) (BodyLoose.notSynchronized Bd)
    refine ⟨_, _, G93 _ ?_, hrun, hended, _, _, rfl, ?_, hRW.1, hRW.2.1, hRW.2.2.1, hRW.2.2.2.mono (by decide) (by decide)⟩
    ·skip
     refine XS.icmpNo X92.here hx rfl (hb hby at_160) rfl (teq hc160_94).2 ?_
     refine XS.iconst X92.here hx rfl (hb hby at_163) ?_
     show Steps p.tables e below (T92.setTop (mkF m 164 #[iv p0, iv p1, iv p2, iv p3, iv 1, iv c0, iv c1, iv c2, rv b35, rv b49, iv 0] [(.int (1 : Int32))])) _
     refine XS.goto X92.here hx rfl (pc0 := 164) (pc' := 168) rfl (hb hby at_164) (by decide) (by decide) ?_
     exact retN X92 hx (t := .boolean) Bd.returns (by simp) (hb hby at_168) hr
    ·show Q0 Z p0 p1 p2 p3 cst fv h0 n0 _ T92.heap _
     rw [eh92]
     exact ⟨rfl, N92⟩
   ·skip
    have G95 : ∀ t, Steps p.tables e below (T88.setTop (mkF m 121 #[iv p0, iv p1, iv p2, iv p3, iv 1, iv c0, iv c1, iv c2, rv b35, rv b49, .unset] [(.int (2 : Int32)), (.int (1 : Int32))])) t → Steps p.tables e below (s₁.setTop (entryFrame m #[(.int p0), (.int p1), (.int p2), (.int p3)] maxLocals)) t := by
     intro t kt
     refine G89 _ ?_
     refine XS.ifNo X88.here hx rfl (hb hby at_115) rfl ((if0 _ _).trans (feq hc115_90).1) ?_
     refine XS.iload X88.here hx rfl (hb hby at_118) rfl ?_
     refine XS.iconst X88.here hx rfl (hb hby at_120) ?_
     exact kt
    have G96 : ∀ t, Steps p.tables e below (T88.setTop (mkF m 135 #[iv p0, iv p1, iv p2, iv p3, iv 1, iv c0, iv c1, iv c2, rv b35, rv b49, .unset] [(.int (3 : Int32)), (.int (1 : Int32))])) t → Steps p.tables e below (s₁.setTop (entryFrame m #[(.int p0), (.int p1), (.int p2), (.int p3)] maxLocals)) t := by
     intro t kt
     refine G95 _ ?_
     refine XS.icmpYes X88.here hx rfl (pc0 := 121) (pc' := 132) rfl (hb hby at_121) rfl (tlt (by decide)).1 (by decide) (by decide) ?_
     refine XS.iload X88.here hx rfl (hb hby at_132) rfl ?_
     refine XS.iconst X88.here hx rfl (hb hby at_134) ?_
     exact kt
    have G97 : ∀ t, Steps p.tables e below (T88.setTop (mkF m 155 #[iv p0, iv p1, iv p2, iv p3, iv 1, iv c0, iv c1, iv c2, rv b35, rv b49, iv 1] [(.ref b49)])) t → Steps p.tables e below (s₁.setTop (entryFrame m #[(.int p0), (.int p1), (.int p2), (.int p3)] maxLocals)) t := by
     intro t kt
     refine G96 _ ?_
     refine XS.icmpYes X88.here hx rfl (pc0 := 135) (pc' := 146) rfl (hb hby at_135) rfl (tlt (by decide)).1 (by decide) (by decide) ?_
     refine XS.iconst X88.here hx rfl (hb hby at_146) ?_
     refine XS.goto X88.here hx rfl (pc0 := 147) (pc' := 151) rfl (hb hby at_147) (by decide) (by decide) ?_
     show Steps p.tables e below (T88.setTop (mkF m 151 #[iv p0, iv p1, iv p2, iv p3, iv 1, iv c0, iv c1, iv c2, rv b35, rv b49, .unset] [(.int (1 : Int32))])) _
     refine XS.istore X88.here hx rfl (hb hby at_151) rfl (l' := #[iv p0, iv p1, iv p2, iv p3, iv 1, iv c0, iv c1, iv c2, rv b35, rv b49, iv 1]) rfl ?_
     refine XS.aload X88.here hx rfl (hb hby at_153) rfl rfl ?_
     exact kt
    obtain ⟨_, _, ⟨T98, L98, k98, n98⟩, -, X98, ⟨Lc98, hQ98, l98, y98, z98⟩, st98⟩ := Jvm.LawKit.callS X88 hx (y := (⟨"com/example/wary_bearer/warybearer/http/Http1Reader", "isFieldValue", "(Ljava/lang/String;)Z"⟩ : MethodName)) hown (mvT hZ (hq hw 34 rfl)) (mvT hZ (hq hw 35 rfl)) (mvT hZ (hq hw 36 rfl)) (mvT hZ (hq hw 37 rfl)) (by decide) (backOf (W := 0) (rmFVU1 l Z a0 hw [] b49 c0 ta58 kb58 cst fv T58.heap n0 z84 A58 Fc58 Fv58 V58 fa81 hb0 SS) hZ (hq hw 37 rfl) (hq hw 36 rfl) (by decide) (by decide)) (g := (mkF m 155 #[iv p0, iv p1, iv p2, iv p3, iv 1, iv c0, iv c1, iv c2, rv b35, rv b49, iv 1] [(.ref b49)])) rfl (by rw [hml]; rfl) (argsL := [(.ref b49)]) (rest := []) (lenOf pd_17 rfl) rfl (by show 2 * 0 + _ ≤ _; exact Nat.le_of_eq rfl) (hb hby at_155) (fun _ _ => ⟨rfl, eh88, (by decide : 4 + 0 ≤ _), (by decide : 8 + 0 ≤ _)⟩)
    dsimp only [Pt.U, Pt.locs, Pt.cells, Pt.slots] at X98 l98 y98 z98 st98 hQ98
    subst l98 y98 z98
    obtain ⟨rfl, N98q, eh98⟩ := hQ98
    have N98 := Fr.app N88 N98q
    have G99 : ∀ t, Steps p.tables e below (T98.setTop (mkF m 160 #[iv p0, iv p1, iv p2, iv p3, iv 1, iv c0, iv c1, iv c2, rv b35, rv b49, iv 1] [(.int (1 : Int32)), (.int (own_fv [c0]))])) t → Steps p.tables e below (s₁.setTop (entryFrame m #[(.int p0), (.int p1), (.int p2), (.int p3)] maxLocals)) t := by
     intro t kt
     refine G97 _ ?_
     refine st98 _ ?_
     refine XS.iload X98.here hx rfl (hb hby at_158) rfl ?_
     exact kt
    have hc160_100 : (own_fv [c0]) = (1 : Int32) := by rw [own_fv, if_neg hc115_90, own_fv]
    obtain ⟨fs, hr, hrun, hended, hRW⟩ := X98.leaveW (s := s) hS (by rw [show T98.heap = T58.heap from eh98]; exact hk) (v := some (.int (1 : Int32))) (fun h => by rw [Bd.returns] at h; cases h) (BodyLoose.notSynchronized Bd)
    refine ⟨_, _, G99 _ ?_, hrun, hended, _, _, rfl, ?_, hRW.1, hRW.2.1, hRW.2.2.1, hRW.2.2.2.mono (by decide) (by decide)⟩
    ·skip
     refine XS.icmpNo X98.here hx rfl (hb hby at_160) rfl (teq hc160_100).2 ?_
     refine XS.iconst X98.here hx rfl (hb hby at_163) ?_
     refine XS.goto X98.here hx rfl (pc0 := 164) (pc' := 168) rfl (hb hby at_164) (by decide) (by decide) ?_
     exact retN X98 hx (t := .boolean) Bd.returns (by simp) (hb hby at_168) hr
    ·show Q0 Z p0 p1 p2 p3 cst fv h0 n0 _ T98.heap _
     rw [eh98]
     exact ⟨rfl, N98⟩
 ·skip
  have G101 : ∀ t, Steps p.tables e below (s₁.setTop (mkF m 19 #[iv p0, iv p1, iv p2, iv p3, iv 2, iv c0, iv c1, iv c2, .unset, .unset, .unset] [(.int (2 : Int32))])) t → Steps p.tables e below (s₁.setTop (entryFrame m #[(.int p0), (.int p1), (.int p2), (.int p3)] maxLocals)) t := by
   intro t kt
   refine G2 _ ?_
   refine XS.iload X0.here hx rfl (hb hby at_17) rfl ?_
   exact kt
  have G102 : ∀ t, Steps p.tables e below (s₁.setTop (mkF m 33 #[iv p0, iv p1, iv p2, iv p3, iv 2, iv c0, iv c1, iv c2, .unset, .unset, .unset] [(.int (1 : Int32)), (.int (2 : Int32))])) t → Steps p.tables e below (s₁.setTop (entryFrame m #[(.int p0), (.int p1), (.int p2), (.int p3)] maxLocals)) t := by
   intro t kt
   refine G101 _ ?_
   refine XS.ifYes X0.here hx rfl (pc0 := 19) (pc' := 30) rfl (hb hby at_19) rfl ((if0 _ _).trans (feq (by decide)).2) (by decide) (by decide) ?_
   refine XS.iload X0.here hx rfl (hb hby at_30) rfl ?_
   refine XS.iconst X0.here hx rfl (hb hby at_32) ?_
   exact kt
  have G103 : ∀ t, Steps p.tables e below (s₁.setTop (mkF m 52 #[iv p0, iv p1, iv p2, iv p3, iv 2, iv c0, iv c1, iv c2, .unset, .unset, .unset] [(.int (2 : Int32)), (.int (2 : Int32))])) t → Steps p.tables e below (s₁.setTop (entryFrame m #[(.int p0), (.int p1), (.int p2), (.int p3)] maxLocals)) t := by
   intro t kt
   refine G102 _ ?_
   refine XS.icmpYes X0.here hx rfl (pc0 := 33) (pc' := 49) rfl (hb hby at_33) rfl (feq (by decide)).2 (by decide) (by decide) ?_
   refine XS.iload X0.here hx rfl (hb hby at_49) rfl ?_
   refine XS.iconst X0.here hx rfl (hb hby at_51) ?_
   exact kt
  obtain ⟨T104, h104, k104, X104, e104, E104, A104, st104⟩ := newP X0 hx hZ (hq hw 0 rfl) e0 (g := (mkF m 56 #[iv p0, iv p1, iv p2, iv p3, iv 2, iv c0, iv c1, iv c2, .unset, .unset, .unset] [(.int (2 : Int32))])) rfl (hb hby at_56) rfl (by decide) (cap := 2) (by decide) (by decide) (by decide) (by decide)
  obtain ⟨b104, g104⟩ : ∃ z, z = h0.size := ⟨_, rfl⟩
  rw [← g104] at A104 st104
  have g_b104 : n0 ≤ b104 := Nat.le_trans Z0 (Nat.le_of_eq g104.symm)
  have sz_b104 : h0.size ≤ b104 := Nat.le_trans kp0.1 (Nat.le_of_eq g104.symm)
  have ch105 : CHv Z own_EL s.vm h104 := CH0.ext E104
  have cr105 : CHr Z own_EL s.vm h0 s.vm h104 := CR0.trans (CHr.ext E104 CH0)
  have sf105_b104 : Safe Z own_EL s.vm h104 b104 := Safe.ext E104 CH0 (Safe.new (Nat.le_of_eq g104.symm))
  have fa106 := O0.ext E104
  have z107 : n0 ≤ h104.size := Nat.le_trans Z0 E104.1
  have hk := Nat.le_trans hk E104.1
  have kp108 : Keep h0 h104 [] := kp0.ext E104
  have fa109 : Arv Z h104 b104 k104 .char (2 : Int32) [(.int (0 : Int32)), (.int (0 : Int32))] (.int (0 : Int32)) := (Arv.new A104 (by decide)).pad (pad_rep [] (.int (0 : Int32)) 2)
  obtain ⟨cl110, Ar110, q110, S110, M110, H110, G110⟩ := id fa109
  have hin110 : ¬ ((0 : Int32) < 0 ∨ cl110.slots.size ≤ ((0 : Int32)).toNatClampNeg) := inb_of S110 ⟨by decide, by decide⟩
  obtain ⟨T111, h111, X111, e111, W111, st111⟩ := stC X104 hx hZ e104 Ar110 (j := (0 : Int32)) hin110 (g := (mkF m 62 #[iv p0, iv p1, iv p2, iv p3, iv 2, iv c0, iv c1, iv c2, .unset, .unset, .unset] [(.int c0), (.int (0 : Int32)), (.ref b104), (.ref b104)])) rfl rfl (hb hby at_62)
  have ch112 : CHv Z own_EL s.vm h111 := ch105.wr W111 sf105_b104
  have cr112 : CHr Z own_EL s.vm h0 s.vm h111 := cr105.trans (CHr.wr W111 sf105_b104 ch105)
  have sf112_b104 : Safe Z own_EL s.vm h111 b104 := Safe.wr W111 sf105_b104 ch105 sf105_b104
  have fa113 := fa106.wr W111 g_b104
  have z114 : n0 ≤ h111.size := Nat.le_trans z107 (Nat.le_of_eq W111.size.symm)
  have hk := Nat.le_trans hk (Nat.le_of_eq W111.size.symm)
  have kp115 : Keep h0 h111 [] := kp108.wr W111 (Or.inr sz_b104)
  have fa116 : Arv Z h111 b104 k104 .char (2 : Int32) [(.int (nar .char c0)), (.int (0 : Int32))] (.int (0 : Int32)) := Arv.set Ar110 q110 S110 M110 H110 G110 (fits_nar_char _) W111 0 rfl (Nat.le_of_ble_eq_true rfl)
  have N111 := Fr.snoc X111 N0 g_b104
  obtain ⟨cl117, Ar117, q117, S117, M117, H117, G117⟩ := id fa116
  have hin117 : ¬ ((1 : Int32) < 0 ∨ cl117.slots.size ≤ ((1 : Int32)).toNatClampNeg) := inb_of S117 ⟨by decide, by decide⟩
  obtain ⟨T118, h118, X118, e118, W118, st118⟩ := stC X111 hx hZ e111 Ar117 (j := (1 : Int32)) hin117 (g := (mkF m 67 #[iv p0, iv p1, iv p2, iv p3, iv 2, iv c0, iv c1, iv c2, .unset, .unset, .unset] [(.int c1), (.int (1 : Int32)), (.ref b104), (.ref b104)])) rfl rfl (hb hby at_67)
  have ch119 : CHv Z own_EL s.vm h118 := ch112.wr W118 sf112_b104
  have cr119 : CHr Z own_EL s.vm h0 s.vm h118 := cr112.trans (CHr.wr W118 sf112_b104 ch112)
  have sf119_b104 : Safe Z own_EL s.vm h118 b104 := Safe.wr W118 sf112_b104 ch112 sf112_b104
  have fa120 := fa113.wr W118 g_b104
  have z121 : n0 ≤ h118.size := Nat.le_trans z114 (Nat.le_of_eq W118.size.symm)
  have hk := Nat.le_trans hk (Nat.le_of_eq W118.size.symm)
  have kp122 : Keep h0 h118 [] := kp115.wr W118 (Or.inr sz_b104)
  have fa123 : Arv Z h118 b104 k104 .char (2 : Int32) [(.int (nar .char c0)), (.int (nar .char c1))] (.int (0 : Int32)) := Arv.set Ar117 q117 S117 M117 H117 G117 (fits_nar_char _) W118 1 rfl (Nat.le_of_ble_eq_true rfl)
  have N118 := Fr.snoc X118 N111 g_b104
  have fa124 : Arv Z h118 b104 k104 .char (2 : Int32) [(.int c0), (.int c1)] (.int (0 : Int32)) := by have q := fa123; rw [own_narc c0 hb0, own_narc c1 hb1] at q; exact q
  obtain ⟨T125, h125, X125, e125, E125, A125, D125, -, st125⟩ := newO X118 hx hZ hown (hq hw 1 rfl) (hq hw 2 rfl) (hq hw 3 rfl) e118 (g := (mkF m 93 #[iv p0, iv p1, iv p2, iv p3, iv 2, iv c0, iv c1, iv c2, rv b104, .unset, .unset] [])) rfl (hb hby at_93) (by decide) (by decide)
  obtain ⟨b125, g125⟩ : ∃ z, z = h118.size := ⟨_, rfl⟩
  rw [← g125] at A125 D125 st125
  have g_b125 : n0 ≤ b125 := Nat.le_trans z121 (Nat.le_of_eq g125.symm)
  have sz_b125 : h0.size ≤ b125 := Nat.le_trans kp122.1 (Nat.le_of_eq g125.symm)
  have ne_b104_b125 : b104 ≠ b125 := Nat.ne_of_lt (Nat.lt_of_lt_of_le fa124.lt (Nat.le_of_eq g125.symm))
  have ch126 : CHv Z own_EL s.vm h125 := ch119.ext E125
  have cr126 : CHr Z own_EL s.vm h0 s.vm h125 := cr119.trans (CHr.ext E125 ch119)
  have sf126_b104 : Safe Z own_EL s.vm h125 b104 := Safe.ext E125 ch119 sf119_b104
  have sf126_b125 : Safe Z own_EL s.vm h125 b125 := Safe.ext E125 ch119 (Safe.new (Nat.le_of_eq g125.symm))
  have fa127 := fa120.ext E125
  have fa128 := fa124.ext E125
  have z129 : n0 ≤ h125.size := Nat.le_trans z121 E125.1
  have hk := Nat.le_trans hk E125.1
  have kp130 : Keep h0 h125 [] := kp122.ext E125
  have fa131 : Fld Z h125 b125 "java/lang/String" "coder" "B" (.int (0 : Int32)) := D125 (Or.inr (hq hw 27 rfl)) (ty := .byte) (by decide)
  have fa132 : Fld Z h125 b125 "java/lang/String" "value" "[B" .null := D125 (Or.inr (hq hw 29 rfl)) (ty := (.array .byte)) (by decide)
  have G133 : ∀ t, Steps p.tables e below (T125.setTop (mkF m 99 #[iv p0, iv p1, iv p2, iv p3, iv 2, iv c0, iv c1, iv c2, rv b104, .unset, .unset] [(.ref b104), (.ref b125), (.ref b125)])) t → Steps p.tables e below (s₁.setTop (entryFrame m #[(.int p0), (.int p1), (.int p2), (.int p3)] maxLocals)) t := by
   intro t kt
   refine G103 _ ?_
   refine XS.icmpNo X0.here hx rfl (hb hby at_52) rfl (teq (by decide)).2 ?_
   refine XS.iconst X0.here hx rfl (hb hby at_55) ?_
   show Steps p.tables e below (s₁.setTop (mkF m 56 #[iv p0, iv p1, iv p2, iv p3, iv 2, iv c0, iv c1, iv c2, .unset, .unset, .unset] [(.int (2 : Int32))])) _
   refine st104 _ ?_
   refine XS.dup X104.here hx rfl (hb hby at_58) rfl rfl ?_
   refine XS.iconst X104.here hx rfl (hb hby at_59) ?_
   refine XS.iload X104.here hx rfl (hb hby at_60) rfl ?_
   refine st111 _ ?_
   refine XS.dup X111.here hx rfl (hb hby at_63) rfl rfl ?_
   refine XS.iconst X111.here hx rfl (hb hby at_64) ?_
   refine XS.iload X111.here hx rfl (hb hby at_65) rfl ?_
   refine st118 _ ?_
   refine XS.astore X118.here hx rfl (hb hby at_68) rfl rfl (l' := #[iv p0, iv p1, iv p2, iv p3, iv 2, iv c0, iv c1, iv c2, rv b104, .unset, .unset]) rfl ?_
   refine XS.goto X118.here hx rfl (pc0 := 70) (pc' := 93) rfl (hb hby at_70) (by decide) (by decide) ?_
   refine st125 _ ?_
   refine XS.dup X125.here hx rfl (hb hby at_96) rfl rfl ?_
   refine XS.aload X125.here hx rfl (hb hby at_97) rfl rfl ?_
   exact kt
  obtain ⟨_, _, ⟨T134, L134, k134, n134⟩, -, X134, ⟨Lc134, hQ134, l134, y134, z134⟩, st134⟩ := X125.specialBack hx (y := (⟨"java/lang/String", "<init>", "([C)V"⟩ : MethodName)) rfl hown (mvT hZ (hq hw 4 rfl)) (mvT hZ (hq hw 5 rfl)) (mvT hZ (hq hw 6 rfl)) (by decide) (backOf (W := 1) (rmSF_2 l Z a0 hw [] b125 b104 c0 c1 k104 cst fv h125 n0 z129 A125 fa132 fa131 fa128 fa127 g_b125 (Ne.symm ne_b104_b125) hb0 hb1 SS) hZ (hq hw 6 rfl) (hq hw 3 rfl) (by decide) (by decide)) (g := (mkF m 99 #[iv p0, iv p1, iv p2, iv p3, iv 2, iv c0, iv c1, iv c2, rv b104, .unset, .unset] [(.ref b104), (.ref b125), (.ref b125)])) rfl (by rw [hml]; rfl) (Steps.refl _) (a := b125) (argsL := [(.ref b104)]) (rest := [(.ref b125)]) (lenOf pd_16 rfl) rfl (by show 2 * 0 + _ ≤ _; exact Nat.le_of_eq rfl) (hb hby at_99) (fun _ _ => ⟨rfl, e125, (by decide : 2 + 2 ≤ _), (by decide : 6 + 6 ≤ _)⟩)
  dsimp only [Pt.U, Pt.locs, Pt.cells, Pt.slots] at X134 l134 y134 z134 st134 hQ134
  subst l134 y134 z134
  rcases hQ134 with ⟨rfl, N134q, K134, A134, hq134, Fc134, ta134, kb134, Fv134, sz134, g_ta134, V134⟩ | ⟨rfl, N134q, K134, A134, hq134, Fc134, ta134, kb134, Fv134, sz134, g_ta134, V134⟩
  ·skip
   have N134 := Fr.app N118 N134q
   have szk134 : h0.size ≤ ta134 := Nat.le_trans kp130.1 sz134
   have ne_b104_ta134 : b104 ≠ ta134 := Nat.ne_of_lt (Nat.lt_of_lt_of_le fa128.lt sz134)
   have ne_b125_ta134 : b125 ≠ ta134 := Nat.ne_of_lt (Nat.lt_of_lt_of_le A125.lt sz134)
   have ch135 : CHv Z own_EL s.vm T134.heap := ch126.keep K134 (allS sf126_b125 all0)
   have cr135 : CHr Z own_EL s.vm h0 s.vm T134.heap := cr126.trans (CHr.keep K134 (allS sf126_b125 all0) ch126)
   have sf135_b104 : Safe Z own_EL s.vm T134.heap b104 := Safe.keep K134 (allS sf126_b125 all0) ch126 sf126_b104
   have sf135_b125 : Safe Z own_EL s.vm T134.heap b125 := Safe.keep K134 (allS sf126_b125 all0) ch126 sf126_b125
   have fa136 := fa127.keep K134 (allS g_b125 all0)
   have fa137 := fa128.keep K134 (ninS ne_b104_b125 nin0)
   have fa138 := A125.keep K134
   have z139 : n0 ≤ T134.heap.size := Nat.le_trans z129 K134.1
   have hk := Nat.le_trans hk K134.1
   have kp140 : Keep h0 T134.heap [] := kp130.trans K134 (allS (Or.inr sz_b125) all0)
   have G141 : ∀ t, Steps p.tables e below (T134.setTop (mkF m 107 #[iv p0, iv p1, iv p2, iv p3, iv 2, iv c0, iv c1, iv c2, rv b104, rv b125, .unset] [(.int (1 : Int32)), (.int (2 : Int32))])) t → Steps p.tables e below (s₁.setTop (entryFrame m #[(.int p0), (.int p1), (.int p2), (.int p3)] maxLocals)) t := by
    intro t kt
    refine G133 _ ?_
    refine st134.trans ?_
    refine XS.astore X134.here hx rfl (hb hby at_102) rfl rfl (l' := #[iv p0, iv p1, iv p2, iv p3, iv 2, iv c0, iv c1, iv c2, rv b104, rv b125, .unset]) rfl ?_
    refine XS.iload X134.here hx rfl (hb hby at_104) rfl ?_
    refine XS.iconst X134.here hx rfl (hb hby at_106) ?_
    exact kt
   have G142 : ∀ t, Steps p.tables e below (T134.setTop (mkF m 112 #[iv p0, iv p1, iv p2, iv p3, iv 2, iv c0, iv c1, iv c2, rv b104, rv b125, .unset] [(.int c0)])) t → Steps p.tables e below (s₁.setTop (entryFrame m #[(.int p0), (.int p1), (.int p2), (.int p3)] maxLocals)) t := by
    intro t kt
    refine G141 _ ?_
    refine XS.icmpNo X134.here hx rfl (hb hby at_107) rfl (flt (by decide)).1 ?_
    refine XS.iload X134.here hx rfl (hb hby at_110) rfl ?_
    exact kt
   obtain ⟨_, _, ⟨T143, L143, k143, n143⟩, -, X143, ⟨Lc143, hQ143, l143, y143, z143⟩, st143⟩ := Jvm.LawKit.callS X134 hx (y := (⟨"com/example/wary_bearer/warybearer/http/Http1ReaderIsFieldValuePinLaw", "allowed", "(C)Z"⟩ : MethodName)) hown (mvT hZ (hq hw 30 rfl)) (mvT hZ (hq hw 31 rfl)) (mvT hZ (hq hw 32 rfl)) (mvT hZ (hq hw 33 rfl)) (by decide) (backOf (W := 0) (rm7 l Z a0 hw [] c0  T134.heap n0 z139 ) hZ (hq hw 33 rfl) (hq hw 32 rfl) (by decide) (by decide)) (g := (mkF m 112 #[iv p0, iv p1, iv p2, iv p3, iv 2, iv c0, iv c1, iv c2, rv b104, rv b125, .unset] [(.int c0)])) rfl (by rw [hml]; rfl) (argsL := [(.int c0)]) (rest := []) (lenOf pd_18 rfl) rfl (by show 2 * 0 + _ ≤ _; exact Nat.le_of_eq rfl) (hb hby at_112) (fun _ _ => ⟨rfl, rfl, (by decide : 4 + 0 ≤ _), (by decide : 12 + 0 ≤ _)⟩)
   dsimp only [Pt.U, Pt.locs, Pt.cells, Pt.slots] at X143 l143 y143 z143 st143 hQ143
   subst l143 y143 z143
   obtain ⟨rfl, N143q, eh143⟩ := hQ143
   have N143 := Fr.app N134 N143q
   have G144 : ∀ t, Steps p.tables e below (T143.setTop (mkF m 115 #[iv p0, iv p1, iv p2, iv p3, iv 2, iv c0, iv c1, iv c2, rv b104, rv b125, .unset] [(.int (fal c0))])) t → Steps p.tables e below (s₁.setTop (entryFrame m #[(.int p0), (.int p1), (.int p2), (.int p3)] maxLocals)) t := by
    intro t kt
    refine G142 _ ?_
    refine st143 _ ?_
    exact kt
   by_cases hc115_145 : (fal c0) = (0 : Int32)
   ·skip
    have G146 : ∀ t, Steps p.tables e below (T143.setTop (mkF m 155 #[iv p0, iv p1, iv p2, iv p3, iv 2, iv c0, iv c1, iv c2, rv b104, rv b125, iv 0] [(.ref b125)])) t → Steps p.tables e below (s₁.setTop (entryFrame m #[(.int p0), (.int p1), (.int p2), (.int p3)] maxLocals)) t := by
     intro t kt
     refine G144 _ ?_
     refine XS.ifYes X143.here hx rfl (pc0 := 115) (pc' := 150) rfl (hb hby at_115) rfl ((if0 _ _).trans (teq hc115_145).1) (by decide) (by decide) ?_
     show Steps p.tables e below (T143.setTop (mkF m 150 #[iv p0, iv p1, iv p2, iv p3, iv 2, iv c0, iv c1, iv c2, rv b104, rv b125, .unset] [])) _
     refine XS.iconst X143.here hx rfl (hb hby at_150) ?_
     refine XS.istore X143.here hx rfl (hb hby at_151) rfl (l' := #[iv p0, iv p1, iv p2, iv p3, iv 2, iv c0, iv c1, iv c2, rv b104, rv b125, iv 0]) rfl ?_
     refine XS.aload X143.here hx rfl (hb hby at_153) rfl rfl ?_
     exact kt
    obtain ⟨_, _, ⟨T147, L147, k147, n147⟩, -, X147, ⟨Lc147, hQ147, l147, y147, z147⟩, st147⟩ := Jvm.LawKit.callS X143 hx (y := (⟨"com/example/wary_bearer/warybearer/http/Http1Reader", "isFieldValue", "(Ljava/lang/String;)Z"⟩ : MethodName)) hown (mvT hZ (hq hw 34 rfl)) (mvT hZ (hq hw 35 rfl)) (mvT hZ (hq hw 36 rfl)) (mvT hZ (hq hw 37 rfl)) (by decide) (backOf (W := 0) (rmFVL2 l Z a0 hw [] b125 c0 c1 ta134 kb134 cst fv T134.heap n0 z139 A134 Fc134 Fv134 V134 fa136 hb0 hb1 hq134.1 hq134.2 SS) hZ (hq hw 37 rfl) (hq hw 36 rfl) (by decide) (by decide)) (g := (mkF m 155 #[iv p0, iv p1, iv p2, iv p3, iv 2, iv c0, iv c1, iv c2, rv b104, rv b125, iv 0] [(.ref b125)])) rfl (by rw [hml]; rfl) (argsL := [(.ref b125)]) (rest := []) (lenOf pd_17 rfl) rfl (by show 2 * 0 + _ ≤ _; exact Nat.le_of_eq rfl) (hb hby at_155) (fun _ _ => ⟨rfl, eh143, (by decide : 4 + 0 ≤ _), (by decide : 12 + 0 ≤ _)⟩)
    dsimp only [Pt.U, Pt.locs, Pt.cells, Pt.slots] at X147 l147 y147 z147 st147 hQ147
    subst l147 y147 z147
    obtain ⟨rfl, N147q, eh147⟩ := hQ147
    have N147 := Fr.app N143 N147q
    have G148 : ∀ t, Steps p.tables e below (T147.setTop (mkF m 160 #[iv p0, iv p1, iv p2, iv p3, iv 2, iv c0, iv c1, iv c2, rv b104, rv b125, iv 0] [(.int (0 : Int32)), (.int (own_fv [c0, c1]))])) t → Steps p.tables e below (s₁.setTop (entryFrame m #[(.int p0), (.int p1), (.int p2), (.int p3)] maxLocals)) t := by
     intro t kt
     refine G146 _ ?_
     refine st147 _ ?_
     refine XS.iload X147.here hx rfl (hb hby at_158) rfl ?_
     exact kt
    have hc160_149 : (own_fv [c0, c1]) = (0 : Int32) := by rw [own_fv, if_pos hc115_145]
    obtain ⟨fs, hr, hrun, hended, hRW⟩ := X147.leaveW (s := s) hS (by rw [show T147.heap = T134.heap from eh147]; exact hk) (v := some (.int (1 : Int32))) (fun h => by rw [Bd.returns] at h; cases h) (BodyLoose.notSynchronized Bd)
    refine ⟨_, _, G148 _ ?_, hrun, hended, _, _, rfl, ?_, hRW.1, hRW.2.1, hRW.2.2.1, hRW.2.2.2.mono (by decide) (by decide)⟩
    ·skip
     refine XS.icmpNo X147.here hx rfl (hb hby at_160) rfl (teq hc160_149).2 ?_
     refine XS.iconst X147.here hx rfl (hb hby at_163) ?_
     refine XS.goto X147.here hx rfl (pc0 := 164) (pc' := 168) rfl (hb hby at_164) (by decide) (by decide) ?_
     exact retN X147 hx (t := .boolean) Bd.returns (by simp) (hb hby at_168) hr
    ·show Q0 Z p0 p1 p2 p3 cst fv h0 n0 _ T147.heap _
     rw [eh147]
     exact ⟨rfl, N147⟩
   ·skip
    have G150 : ∀ t, Steps p.tables e below (T143.setTop (mkF m 121 #[iv p0, iv p1, iv p2, iv p3, iv 2, iv c0, iv c1, iv c2, rv b104, rv b125, .unset] [(.int (2 : Int32)), (.int (2 : Int32))])) t → Steps p.tables e below (s₁.setTop (entryFrame m #[(.int p0), (.int p1), (.int p2), (.int p3)] maxLocals)) t := by
     intro t kt
     refine G144 _ ?_
     refine XS.ifNo X143.here hx rfl (hb hby at_115) rfl ((if0 _ _).trans (feq hc115_145).1) ?_
     show Steps p.tables e below (T143.setTop (mkF m 118 #[iv p0, iv p1, iv p2, iv p3, iv 2, iv c0, iv c1, iv c2, rv b104, rv b125, .unset] [])) _
     refine XS.iload X143.here hx rfl (hb hby at_118) rfl ?_
     refine XS.iconst X143.here hx rfl (hb hby at_120) ?_
     exact kt
    have G151 : ∀ t, Steps p.tables e below (T143.setTop (mkF m 126 #[iv p0, iv p1, iv p2, iv p3, iv 2, iv c0, iv c1, iv c2, rv b104, rv b125, .unset] [(.int c1)])) t → Steps p.tables e below (s₁.setTop (entryFrame m #[(.int p0), (.int p1), (.int p2), (.int p3)] maxLocals)) t := by
     intro t kt
     refine G150 _ ?_
     refine XS.icmpNo X143.here hx rfl (hb hby at_121) rfl (flt (by decide)).1 ?_
     refine XS.iload X143.here hx rfl (hb hby at_124) rfl ?_
     exact kt
    obtain ⟨_, _, ⟨T152, L152, k152, n152⟩, -, X152, ⟨Lc152, hQ152, l152, y152, z152⟩, st152⟩ := Jvm.LawKit.callS X143 hx (y := (⟨"com/example/wary_bearer/warybearer/http/Http1ReaderIsFieldValuePinLaw", "allowed", "(C)Z"⟩ : MethodName)) hown (mvT hZ (hq hw 30 rfl)) (mvT hZ (hq hw 31 rfl)) (mvT hZ (hq hw 32 rfl)) (mvT hZ (hq hw 33 rfl)) (by decide) (backOf (W := 0) (rm7 l Z a0 hw [] c1  T134.heap n0 z139 ) hZ (hq hw 33 rfl) (hq hw 32 rfl) (by decide) (by decide)) (g := (mkF m 126 #[iv p0, iv p1, iv p2, iv p3, iv 2, iv c0, iv c1, iv c2, rv b104, rv b125, .unset] [(.int c1)])) rfl (by rw [hml]; rfl) (argsL := [(.int c1)]) (rest := []) (lenOf pd_18 rfl) rfl (by show 2 * 0 + _ ≤ _; exact Nat.le_of_eq rfl) (hb hby at_126) (fun _ _ => ⟨rfl, eh143, (by decide : 4 + 0 ≤ _), (by decide : 12 + 0 ≤ _)⟩)
    dsimp only [Pt.U, Pt.locs, Pt.cells, Pt.slots] at X152 l152 y152 z152 st152 hQ152
    subst l152 y152 z152
    obtain ⟨rfl, N152q, eh152⟩ := hQ152
    have N152 := Fr.app N143 N152q
    have G153 : ∀ t, Steps p.tables e below (T152.setTop (mkF m 129 #[iv p0, iv p1, iv p2, iv p3, iv 2, iv c0, iv c1, iv c2, rv b104, rv b125, .unset] [(.int (fal c1))])) t → Steps p.tables e below (s₁.setTop (entryFrame m #[(.int p0), (.int p1), (.int p2), (.int p3)] maxLocals)) t := by
     intro t kt
     refine G151 _ ?_
     refine st152 _ ?_
     exact kt
    by_cases hc129_154 : (fal c1) = (0 : Int32)
    ·skip
     have G155 : ∀ t, Steps p.tables e below (T152.setTop (mkF m 155 #[iv p0, iv p1, iv p2, iv p3, iv 2, iv c0, iv c1, iv c2, rv b104, rv b125, iv 0] [(.ref b125)])) t → Steps p.tables e below (s₁.setTop (entryFrame m #[(.int p0), (.int p1), (.int p2), (.int p3)] maxLocals)) t := by
      intro t kt
      refine G153 _ ?_
      refine XS.ifYes X152.here hx rfl (pc0 := 129) (pc' := 150) rfl (hb hby at_129) rfl ((if0 _ _).trans (teq hc129_154).1) (by decide) (by decide) ?_
      refine XS.iconst X152.here hx rfl (hb hby at_150) ?_
      refine XS.istore X152.here hx rfl (hb hby at_151) rfl (l' := #[iv p0, iv p1, iv p2, iv p3, iv 2, iv c0, iv c1, iv c2, rv b104, rv b125, iv 0]) rfl ?_
      refine XS.aload X152.here hx rfl (hb hby at_153) rfl rfl ?_
      exact kt
     obtain ⟨_, _, ⟨T156, L156, k156, n156⟩, -, X156, ⟨Lc156, hQ156, l156, y156, z156⟩, st156⟩ := Jvm.LawKit.callS X152 hx (y := (⟨"com/example/wary_bearer/warybearer/http/Http1Reader", "isFieldValue", "(Ljava/lang/String;)Z"⟩ : MethodName)) hown (mvT hZ (hq hw 34 rfl)) (mvT hZ (hq hw 35 rfl)) (mvT hZ (hq hw 36 rfl)) (mvT hZ (hq hw 37 rfl)) (by decide) (backOf (W := 0) (rmFVL2 l Z a0 hw [] b125 c0 c1 ta134 kb134 cst fv T134.heap n0 z139 A134 Fc134 Fv134 V134 fa136 hb0 hb1 hq134.1 hq134.2 SS) hZ (hq hw 37 rfl) (hq hw 36 rfl) (by decide) (by decide)) (g := (mkF m 155 #[iv p0, iv p1, iv p2, iv p3, iv 2, iv c0, iv c1, iv c2, rv b104, rv b125, iv 0] [(.ref b125)])) rfl (by rw [hml]; rfl) (argsL := [(.ref b125)]) (rest := []) (lenOf pd_17 rfl) rfl (by show 2 * 0 + _ ≤ _; exact Nat.le_of_eq rfl) (hb hby at_155) (fun _ _ => ⟨rfl, eh152, (by decide : 4 + 0 ≤ _), (by decide : 12 + 0 ≤ _)⟩)
     dsimp only [Pt.U, Pt.locs, Pt.cells, Pt.slots] at X156 l156 y156 z156 st156 hQ156
     subst l156 y156 z156
     obtain ⟨rfl, N156q, eh156⟩ := hQ156
     have N156 := Fr.app N152 N156q
     have G157 : ∀ t, Steps p.tables e below (T156.setTop (mkF m 160 #[iv p0, iv p1, iv p2, iv p3, iv 2, iv c0, iv c1, iv c2, rv b104, rv b125, iv 0] [(.int (0 : Int32)), (.int (own_fv [c0, c1]))])) t → Steps p.tables e below (s₁.setTop (entryFrame m #[(.int p0), (.int p1), (.int p2), (.int p3)] maxLocals)) t := by
      intro t kt
      refine G155 _ ?_
      refine st156 _ ?_
      refine XS.iload X156.here hx rfl (hb hby at_158) rfl ?_
      exact kt
     have hc160_158 : (own_fv [c0, c1]) = (0 : Int32) := by rw [own_fv, if_neg hc115_145, own_fv, if_pos hc129_154]
     obtain ⟨fs, hr, hrun, hended, hRW⟩ := X156.leaveW (s := s) hS (by rw [show T156.heap = T134.heap from eh156]; exact hk) (v := some (.int (1 : Int32))) (fun h => by rw [Bd.returns] at h; cases h) (BodyLoose.notSynchronized Bd)
     refine ⟨_, _, G157 _ ?_, hrun, hended, _, _, rfl, ?_, hRW.1, hRW.2.1, hRW.2.2.1, hRW.2.2.2.mono (by decide) (by decide)⟩
     ·skip
      refine XS.icmpNo X156.here hx rfl (hb hby at_160) rfl (teq hc160_158).2 ?_
      refine XS.iconst X156.here hx rfl (hb hby at_163) ?_
      refine XS.goto X156.here hx rfl (pc0 := 164) (pc' := 168) rfl (hb hby at_164) (by decide) (by decide) ?_
      exact retN X156 hx (t := .boolean) Bd.returns (by simp) (hb hby at_168) hr
     ·show Q0 Z p0 p1 p2 p3 cst fv h0 n0 _ T156.heap _
      rw [eh156]
      exact ⟨rfl, N156⟩
    ·skip
     have G159 : ∀ t, Steps p.tables e below (T152.setTop (mkF m 135 #[iv p0, iv p1, iv p2, iv p3, iv 2, iv c0, iv c1, iv c2, rv b104, rv b125, .unset] [(.int (3 : Int32)), (.int (2 : Int32))])) t → Steps p.tables e below (s₁.setTop (entryFrame m #[(.int p0), (.int p1), (.int p2), (.int p3)] maxLocals)) t := by
      intro t kt
      refine G153 _ ?_
      refine XS.ifNo X152.here hx rfl (hb hby at_129) rfl ((if0 _ _).trans (feq hc129_154).1) ?_
      refine XS.iload X152.here hx rfl (hb hby at_132) rfl ?_
      refine XS.iconst X152.here hx rfl (hb hby at_134) ?_
      exact kt
     have G160 : ∀ t, Steps p.tables e below (T152.setTop (mkF m 155 #[iv p0, iv p1, iv p2, iv p3, iv 2, iv c0, iv c1, iv c2, rv b104, rv b125, iv 1] [(.ref b125)])) t → Steps p.tables e below (s₁.setTop (entryFrame m #[(.int p0), (.int p1), (.int p2), (.int p3)] maxLocals)) t := by
      intro t kt
      refine G159 _ ?_
      refine XS.icmpYes X152.here hx rfl (pc0 := 135) (pc' := 146) rfl (hb hby at_135) rfl (tlt (by decide)).1 (by decide) (by decide) ?_
      refine XS.iconst X152.here hx rfl (hb hby at_146) ?_
      refine XS.goto X152.here hx rfl (pc0 := 147) (pc' := 151) rfl (hb hby at_147) (by decide) (by decide) ?_
      refine XS.istore X152.here hx rfl (hb hby at_151) rfl (l' := #[iv p0, iv p1, iv p2, iv p3, iv 2, iv c0, iv c1, iv c2, rv b104, rv b125, iv 1]) rfl ?_
      refine XS.aload X152.here hx rfl (hb hby at_153) rfl rfl ?_
      exact kt
     obtain ⟨_, _, ⟨T161, L161, k161, n161⟩, -, X161, ⟨Lc161, hQ161, l161, y161, z161⟩, st161⟩ := Jvm.LawKit.callS X152 hx (y := (⟨"com/example/wary_bearer/warybearer/http/Http1Reader", "isFieldValue", "(Ljava/lang/String;)Z"⟩ : MethodName)) hown (mvT hZ (hq hw 34 rfl)) (mvT hZ (hq hw 35 rfl)) (mvT hZ (hq hw 36 rfl)) (mvT hZ (hq hw 37 rfl)) (by decide) (backOf (W := 0) (rmFVL2 l Z a0 hw [] b125 c0 c1 ta134 kb134 cst fv T134.heap n0 z139 A134 Fc134 Fv134 V134 fa136 hb0 hb1 hq134.1 hq134.2 SS) hZ (hq hw 37 rfl) (hq hw 36 rfl) (by decide) (by decide)) (g := (mkF m 155 #[iv p0, iv p1, iv p2, iv p3, iv 2, iv c0, iv c1, iv c2, rv b104, rv b125, iv 1] [(.ref b125)])) rfl (by rw [hml]; rfl) (argsL := [(.ref b125)]) (rest := []) (lenOf pd_17 rfl) rfl (by show 2 * 0 + _ ≤ _; exact Nat.le_of_eq rfl) (hb hby at_155) (fun _ _ => ⟨rfl, eh152, (by decide : 4 + 0 ≤ _), (by decide : 12 + 0 ≤ _)⟩)
     dsimp only [Pt.U, Pt.locs, Pt.cells, Pt.slots] at X161 l161 y161 z161 st161 hQ161
     subst l161 y161 z161
     obtain ⟨rfl, N161q, eh161⟩ := hQ161
     have N161 := Fr.app N152 N161q
     have G162 : ∀ t, Steps p.tables e below (T161.setTop (mkF m 160 #[iv p0, iv p1, iv p2, iv p3, iv 2, iv c0, iv c1, iv c2, rv b104, rv b125, iv 1] [(.int (1 : Int32)), (.int (own_fv [c0, c1]))])) t → Steps p.tables e below (s₁.setTop (entryFrame m #[(.int p0), (.int p1), (.int p2), (.int p3)] maxLocals)) t := by
      intro t kt
      refine G160 _ ?_
      refine st161 _ ?_
      refine XS.iload X161.here hx rfl (hb hby at_158) rfl ?_
      exact kt
     have hc160_163 : (own_fv [c0, c1]) = (1 : Int32) := by rw [own_fv, if_neg hc115_145, own_fv, if_neg hc129_154, own_fv]
     obtain ⟨fs, hr, hrun, hended, hRW⟩ := X161.leaveW (s := s) hS (by rw [show T161.heap = T134.heap from eh161]; exact hk) (v := some (.int (1 : Int32))) (fun h => by rw [Bd.returns] at h; cases h) (BodyLoose.notSynchronized Bd)
     refine ⟨_, _, G162 _ ?_, hrun, hended, _, _, rfl, ?_, hRW.1, hRW.2.1, hRW.2.2.1, hRW.2.2.2.mono (by decide) (by decide)⟩
     ·skip
      refine XS.icmpNo X161.here hx rfl (hb hby at_160) rfl (teq hc160_163).2 ?_
      refine XS.iconst X161.here hx rfl (hb hby at_163) ?_
      refine XS.goto X161.here hx rfl (pc0 := 164) (pc' := 168) rfl (hb hby at_164) (by decide) (by decide) ?_
      exact retN X161 hx (t := .boolean) Bd.returns (by simp) (hb hby at_168) hr
     ·show Q0 Z p0 p1 p2 p3 cst fv h0 n0 _ T161.heap _
      rw [eh161]
      exact ⟨rfl, N161⟩
  ·skip
   have N134 := Fr.app N118 N134q
   have szk134 : h0.size ≤ ta134 := Nat.le_trans kp130.1 sz134
   have ne_b104_ta134 : b104 ≠ ta134 := Nat.ne_of_lt (Nat.lt_of_lt_of_le fa128.lt sz134)
   have ne_b125_ta134 : b125 ≠ ta134 := Nat.ne_of_lt (Nat.lt_of_lt_of_le A125.lt sz134)
   have ch164 : CHv Z own_EL s.vm T134.heap := ch126.keep K134 (allS sf126_b125 all0)
   have cr164 : CHr Z own_EL s.vm h0 s.vm T134.heap := cr126.trans (CHr.keep K134 (allS sf126_b125 all0) ch126)
   have sf164_b104 : Safe Z own_EL s.vm T134.heap b104 := Safe.keep K134 (allS sf126_b125 all0) ch126 sf126_b104
   have sf164_b125 : Safe Z own_EL s.vm T134.heap b125 := Safe.keep K134 (allS sf126_b125 all0) ch126 sf126_b125
   have fa165 := fa127.keep K134 (allS g_b125 all0)
   have fa166 := fa128.keep K134 (ninS ne_b104_b125 nin0)
   have fa167 := A125.keep K134
   have z168 : n0 ≤ T134.heap.size := Nat.le_trans z129 K134.1
   have hk := Nat.le_trans hk K134.1
   have kp169 : Keep h0 T134.heap [] := kp130.trans K134 (allS (Or.inr sz_b125) all0)
   have G170 : ∀ t, Steps p.tables e below (T134.setTop (mkF m 107 #[iv p0, iv p1, iv p2, iv p3, iv 2, iv c0, iv c1, iv c2, rv b104, rv b125, .unset] [(.int (1 : Int32)), (.int (2 : Int32))])) t → Steps p.tables e below (s₁.setTop (entryFrame m #[(.int p0), (.int p1), (.int p2), (.int p3)] maxLocals)) t := by
    intro t kt
    refine G133 _ ?_
    refine st134.trans ?_
    refine XS.astore X134.here hx rfl (hb hby at_102) rfl rfl (l' := #[iv p0, iv p1, iv p2, iv p3, iv 2, iv c0, iv c1, iv c2, rv b104, rv b125, .unset]) rfl ?_
    refine XS.iload X134.here hx rfl (hb hby at_104) rfl ?_
    refine XS.iconst X134.here hx rfl (hb hby at_106) ?_
    exact kt
   have G171 : ∀ t, Steps p.tables e below (T134.setTop (mkF m 112 #[iv p0, iv p1, iv p2, iv p3, iv 2, iv c0, iv c1, iv c2, rv b104, rv b125, .unset] [(.int c0)])) t → Steps p.tables e below (s₁.setTop (entryFrame m #[(.int p0), (.int p1), (.int p2), (.int p3)] maxLocals)) t := by
    intro t kt
    refine G170 _ ?_
    refine XS.icmpNo X134.here hx rfl (hb hby at_107) rfl (flt (by decide)).1 ?_
    refine XS.iload X134.here hx rfl (hb hby at_110) rfl ?_
    exact kt
   obtain ⟨_, _, ⟨T172, L172, k172, n172⟩, -, X172, ⟨Lc172, hQ172, l172, y172, z172⟩, st172⟩ := Jvm.LawKit.callS X134 hx (y := (⟨"com/example/wary_bearer/warybearer/http/Http1ReaderIsFieldValuePinLaw", "allowed", "(C)Z"⟩ : MethodName)) hown (mvT hZ (hq hw 30 rfl)) (mvT hZ (hq hw 31 rfl)) (mvT hZ (hq hw 32 rfl)) (mvT hZ (hq hw 33 rfl)) (by decide) (backOf (W := 0) (rm7 l Z a0 hw [] c0  T134.heap n0 z168 ) hZ (hq hw 33 rfl) (hq hw 32 rfl) (by decide) (by decide)) (g := (mkF m 112 #[iv p0, iv p1, iv p2, iv p3, iv 2, iv c0, iv c1, iv c2, rv b104, rv b125, .unset] [(.int c0)])) rfl (by rw [hml]; rfl) (argsL := [(.int c0)]) (rest := []) (lenOf pd_18 rfl) rfl (by show 2 * 0 + _ ≤ _; exact Nat.le_of_eq rfl) (hb hby at_112) (fun _ _ => ⟨rfl, rfl, (by decide : 4 + 0 ≤ _), (by decide : 12 + 0 ≤ _)⟩)
   dsimp only [Pt.U, Pt.locs, Pt.cells, Pt.slots] at X172 l172 y172 z172 st172 hQ172
   subst l172 y172 z172
   obtain ⟨rfl, N172q, eh172⟩ := hQ172
   have N172 := Fr.app N134 N172q
   have G173 : ∀ t, Steps p.tables e below (T172.setTop (mkF m 115 #[iv p0, iv p1, iv p2, iv p3, iv 2, iv c0, iv c1, iv c2, rv b104, rv b125, .unset] [(.int (fal c0))])) t → Steps p.tables e below (s₁.setTop (entryFrame m #[(.int p0), (.int p1), (.int p2), (.int p3)] maxLocals)) t := by
    intro t kt
    refine G171 _ ?_
    refine st172 _ ?_
    exact kt
   by_cases hc115_174 : (fal c0) = (0 : Int32)
   ·skip
    have G175 : ∀ t, Steps p.tables e below (T172.setTop (mkF m 155 #[iv p0, iv p1, iv p2, iv p3, iv 2, iv c0, iv c1, iv c2, rv b104, rv b125, iv 0] [(.ref b125)])) t → Steps p.tables e below (s₁.setTop (entryFrame m #[(.int p0), (.int p1), (.int p2), (.int p3)] maxLocals)) t := by
     intro t kt
     refine G173 _ ?_
     refine XS.ifYes X172.here hx rfl (pc0 := 115) (pc' := 150) rfl (hb hby at_115) rfl ((if0 _ _).trans (teq hc115_174).1) (by decide) (by decide) ?_
     show Steps p.tables e below (T172.setTop (mkF m 150 #[iv p0, iv p1, iv p2, iv p3, iv 2, iv c0, iv c1, iv c2, rv b104, rv b125, .unset] [])) _
     refine XS.iconst X172.here hx rfl (hb hby at_150) ?_
     refine XS.istore X172.here hx rfl (hb hby at_151) rfl (l' := #[iv p0, iv p1, iv p2, iv p3, iv 2, iv c0, iv c1, iv c2, rv b104, rv b125, iv 0]) rfl ?_
     refine XS.aload X172.here hx rfl (hb hby at_153) rfl rfl ?_
     exact kt
    obtain ⟨_, _, ⟨T176, L176, k176, n176⟩, -, X176, ⟨Lc176, hQ176, l176, y176, z176⟩, st176⟩ := Jvm.LawKit.callS X172 hx (y := (⟨"com/example/wary_bearer/warybearer/http/Http1Reader", "isFieldValue", "(Ljava/lang/String;)Z"⟩ : MethodName)) hown (mvT hZ (hq hw 34 rfl)) (mvT hZ (hq hw 35 rfl)) (mvT hZ (hq hw 36 rfl)) (mvT hZ (hq hw 37 rfl)) (by decide) (backOf (W := 0) (rmFVU2 l Z a0 hw [] b125 c0 c1 ta134 kb134 cst fv T134.heap n0 z168 A134 Fc134 Fv134 V134 fa165 hb0 hb1 SS) hZ (hq hw 37 rfl) (hq hw 36 rfl) (by decide) (by decide)) (g := (mkF m 155 #[iv p0, iv p1, iv p2, iv p3, iv 2, iv c0, iv c1, iv c2, rv b104, rv b125, iv 0] [(.ref b125)])) rfl (by rw [hml]; rfl) (argsL := [(.ref b125)]) (rest := []) (lenOf pd_17 rfl) rfl (by show 2 * 0 + _ ≤ _; exact Nat.le_of_eq rfl) (hb hby at_155) (fun _ _ => ⟨rfl, eh172, (by decide : 4 + 0 ≤ _), (by decide : 12 + 0 ≤ _)⟩)
    dsimp only [Pt.U, Pt.locs, Pt.cells, Pt.slots] at X176 l176 y176 z176 st176 hQ176
    subst l176 y176 z176
    obtain ⟨rfl, N176q, eh176⟩ := hQ176
    have N176 := Fr.app N172 N176q
    have G177 : ∀ t, Steps p.tables e below (T176.setTop (mkF m 160 #[iv p0, iv p1, iv p2, iv p3, iv 2, iv c0, iv c1, iv c2, rv b104, rv b125, iv 0] [(.int (0 : Int32)), (.int (own_fv [c0, c1]))])) t → Steps p.tables e below (s₁.setTop (entryFrame m #[(.int p0), (.int p1), (.int p2), (.int p3)] maxLocals)) t := by
     intro t kt
     refine G175 _ ?_
     refine st176 _ ?_
     refine XS.iload X176.here hx rfl (hb hby at_158) rfl ?_
     exact kt
    have hc160_178 : (own_fv [c0, c1]) = (0 : Int32) := by rw [own_fv, if_pos hc115_174]
    obtain ⟨fs, hr, hrun, hended, hRW⟩ := X176.leaveW (s := s) hS (by rw [show T176.heap = T134.heap from eh176]; exact hk) (v := some (.int (1 : Int32))) (fun h => by rw [Bd.returns] at h; cases h) (BodyLoose.notSynchronized Bd)
    refine ⟨_, _, G177 _ ?_, hrun, hended, _, _, rfl, ?_, hRW.1, hRW.2.1, hRW.2.2.1, hRW.2.2.2.mono (by decide) (by decide)⟩
    ·skip
     refine XS.icmpNo X176.here hx rfl (hb hby at_160) rfl (teq hc160_178).2 ?_
     refine XS.iconst X176.here hx rfl (hb hby at_163) ?_
     refine XS.goto X176.here hx rfl (pc0 := 164) (pc' := 168) rfl (hb hby at_164) (by decide) (by decide) ?_
     exact retN X176 hx (t := .boolean) Bd.returns (by simp) (hb hby at_168) hr
    ·show Q0 Z p0 p1 p2 p3 cst fv h0 n0 _ T176.heap _
     rw [eh176]
     exact ⟨rfl, N176⟩
   ·skip
    have G179 : ∀ t, Steps p.tables e below (T172.setTop (mkF m 121 #[iv p0, iv p1, iv p2, iv p3, iv 2, iv c0, iv c1, iv c2, rv b104, rv b125, .unset] [(.int (2 : Int32)), (.int (2 : Int32))])) t → Steps p.tables e below (s₁.setTop (entryFrame m #[(.int p0), (.int p1), (.int p2), (.int p3)] maxLocals)) t := by
     intro t kt
     refine G173 _ ?_
     refine XS.ifNo X172.here hx rfl (hb hby at_115) rfl ((if0 _ _).trans (feq hc115_174).1) ?_
     show Steps p.tables e below (T172.setTop (mkF m 118 #[iv p0, iv p1, iv p2, iv p3, iv 2, iv c0, iv c1, iv c2, rv b104, rv b125, .unset] [])) _
     refine XS.iload X172.here hx rfl (hb hby at_118) rfl ?_
     refine XS.iconst X172.here hx rfl (hb hby at_120) ?_
     exact kt
    have G180 : ∀ t, Steps p.tables e below (T172.setTop (mkF m 126 #[iv p0, iv p1, iv p2, iv p3, iv 2, iv c0, iv c1, iv c2, rv b104, rv b125, .unset] [(.int c1)])) t → Steps p.tables e below (s₁.setTop (entryFrame m #[(.int p0), (.int p1), (.int p2), (.int p3)] maxLocals)) t := by
     intro t kt
     refine G179 _ ?_
     refine XS.icmpNo X172.here hx rfl (hb hby at_121) rfl (flt (by decide)).1 ?_
     refine XS.iload X172.here hx rfl (hb hby at_124) rfl ?_
     exact kt
    obtain ⟨_, _, ⟨T181, L181, k181, n181⟩, -, X181, ⟨Lc181, hQ181, l181, y181, z181⟩, st181⟩ := Jvm.LawKit.callS X172 hx (y := (⟨"com/example/wary_bearer/warybearer/http/Http1ReaderIsFieldValuePinLaw", "allowed", "(C)Z"⟩ : MethodName)) hown (mvT hZ (hq hw 30 rfl)) (mvT hZ (hq hw 31 rfl)) (mvT hZ (hq hw 32 rfl)) (mvT hZ (hq hw 33 rfl)) (by decide) (backOf (W := 0) (rm7 l Z a0 hw [] c1  T134.heap n0 z168 ) hZ (hq hw 33 rfl) (hq hw 32 rfl) (by decide) (by decide)) (g := (mkF m 126 #[iv p0, iv p1, iv p2, iv p3, iv 2, iv c0, iv c1, iv c2, rv b104, rv b125, .unset] [(.int c1)])) rfl (by rw [hml]; rfl) (argsL := [(.int c1)]) (rest := []) (lenOf pd_18 rfl) rfl (by show 2 * 0 + _ ≤ _; exact Nat.le_of_eq rfl) (hb hby at_126) (fun _ _ => ⟨rfl, eh172, (by decide : 4 + 0 ≤ _), (by decide : 12 + 0 ≤ _)⟩)
    dsimp only [Pt.U, Pt.locs, Pt.cells, Pt.slots] at X181 l181 y181 z181 st181 hQ181
    subst l181 y181 z181
    obtain ⟨rfl, N181q, eh181⟩ := hQ181
    have N181 := Fr.app N172 N181q
    have G182 : ∀ t, Steps p.tables e below (T181.setTop (mkF m 129 #[iv p0, iv p1, iv p2, iv p3, iv 2, iv c0, iv c1, iv c2, rv b104, rv b125, .unset] [(.int (fal c1))])) t → Steps p.tables e below (s₁.setTop (entryFrame m #[(.int p0), (.int p1), (.int p2), (.int p3)] maxLocals)) t := by
     intro t kt
     refine G180 _ ?_
     refine st181 _ ?_
     exact kt
    by_cases hc129_183 : (fal c1) = (0 : Int32)
    ·skip
     have G184 : ∀ t, Steps p.tables e below (T181.setTop (mkF m 155 #[iv p0, iv p1, iv p2, iv p3, iv 2, iv c0, iv c1, iv c2, rv b104, rv b125, iv 0] [(.ref b125)])) t → Steps p.tables e below (s₁.setTop (entryFrame m #[(.int p0), (.int p1), (.int p2), (.int p3)] maxLocals)) t := by
      intro t kt
      refine G182 _ ?_
      refine XS.ifYes X181.here hx rfl (pc0 := 129) (pc' := 150) rfl (hb hby at_129) rfl ((if0 _ _).trans (teq hc129_183).1) (by decide) (by decide) ?_
      refine XS.iconst X181.here hx rfl (hb hby at_150) ?_
      refine XS.istore X181.here hx rfl (hb hby at_151) rfl (l' := #[iv p0, iv p1, iv p2, iv p3, iv 2, iv c0, iv c1, iv c2, rv b104, rv b125, iv 0]) rfl ?_
      refine XS.aload X181.here hx rfl (hb hby at_153) rfl rfl ?_
      exact kt
     obtain ⟨_, _, ⟨T185, L185, k185, n185⟩, -, X185, ⟨Lc185, hQ185, l185, y185, z185⟩, st185⟩ := Jvm.LawKit.callS X181 hx (y := (⟨"com/example/wary_bearer/warybearer/http/Http1Reader", "isFieldValue", "(Ljava/lang/String;)Z"⟩ : MethodName)) hown (mvT hZ (hq hw 34 rfl)) (mvT hZ (hq hw 35 rfl)) (mvT hZ (hq hw 36 rfl)) (mvT hZ (hq hw 37 rfl)) (by decide) (backOf (W := 0) (rmFVU2 l Z a0 hw [] b125 c0 c1 ta134 kb134 cst fv T134.heap n0 z168 A134 Fc134 Fv134 V134 fa165 hb0 hb1 SS) hZ (hq hw 37 rfl) (hq hw 36 rfl) (by decide) (by decide)) (g := (mkF m 155 #[iv p0, iv p1, iv p2, iv p3, iv 2, iv c0, iv c1, iv c2, rv b104, rv b125, iv 0] [(.ref b125)])) rfl (by rw [hml]; rfl) (argsL := [(.ref b125)]) (rest := []) (lenOf pd_17 rfl) rfl (by show 2 * 0 + _ ≤ _; exact Nat.le_of_eq rfl) (hb hby at_155) (fun _ _ => ⟨rfl, eh181, (by decide : 4 + 0 ≤ _), (by decide : 12 + 0 ≤ _)⟩)
     dsimp only [Pt.U, Pt.locs, Pt.cells, Pt.slots] at X185 l185 y185 z185 st185 hQ185
     subst l185 y185 z185
     obtain ⟨rfl, N185q, eh185⟩ := hQ185
     have N185 := Fr.app N181 N185q
     have G186 : ∀ t, Steps p.tables e below (T185.setTop (mkF m 160 #[iv p0, iv p1, iv p2, iv p3, iv 2, iv c0, iv c1, iv c2, rv b104, rv b125, iv 0] [(.int (0 : Int32)), (.int (own_fv [c0, c1]))])) t → Steps p.tables e below (s₁.setTop (entryFrame m #[(.int p0), (.int p1), (.int p2), (.int p3)] maxLocals)) t := by
      intro t kt
      refine G184 _ ?_
      refine st185 _ ?_
      refine XS.iload X185.here hx rfl (hb hby at_158) rfl ?_
      exact kt
     have hc160_187 : (own_fv [c0, c1]) = (0 : Int32) := by rw [own_fv, if_neg hc115_174, own_fv, if_pos hc129_183]
     obtain ⟨fs, hr, hrun, hended, hRW⟩ := X185.leaveW (s := s) hS (by rw [show T185.heap = T134.heap from eh185]; exact hk) (v := some (.int (1 : Int32))) (fun h => by rw [Bd.returns] at h; cases h) (BodyLoose.notSynchronized Bd)
     refine ⟨_, _, G186 _ ?_, hrun, hended, _, _, rfl, ?_, hRW.1, hRW.2.1, hRW.2.2.1, hRW.2.2.2.mono (by decide) (by decide)⟩
     ·skip
      refine XS.icmpNo X185.here hx rfl (hb hby at_160) rfl (teq hc160_187).2 ?_
      refine XS.iconst X185.here hx rfl (hb hby at_163) ?_
      refine XS.goto X185.here hx rfl (pc0 := 164) (pc' := 168) rfl (hb hby at_164) (by decide) (by decide) ?_
      exact retN X185 hx (t := .boolean) Bd.returns (by simp) (hb hby at_168) hr
     ·show Q0 Z p0 p1 p2 p3 cst fv h0 n0 _ T185.heap _
      rw [eh185]
      exact ⟨rfl, N185⟩
    ·skip
     have G188 : ∀ t, Steps p.tables e below (T181.setTop (mkF m 135 #[iv p0, iv p1, iv p2, iv p3, iv 2, iv c0, iv c1, iv c2, rv b104, rv b125, .unset] [(.int (3 : Int32)), (.int (2 : Int32))])) t → Steps p.tables e below (s₁.setTop (entryFrame m #[(.int p0), (.int p1), (.int p2), (.int p3)] maxLocals)) t := by
      intro t kt
      refine G182 _ ?_
      refine XS.ifNo X181.here hx rfl (hb hby at_129) rfl ((if0 _ _).trans (feq hc129_183).1) ?_
      refine XS.iload X181.here hx rfl (hb hby at_132) rfl ?_
      refine XS.iconst X181.here hx rfl (hb hby at_134) ?_
      exact kt
     have G189 : ∀ t, Steps p.tables e below (T181.setTop (mkF m 155 #[iv p0, iv p1, iv p2, iv p3, iv 2, iv c0, iv c1, iv c2, rv b104, rv b125, iv 1] [(.ref b125)])) t → Steps p.tables e below (s₁.setTop (entryFrame m #[(.int p0), (.int p1), (.int p2), (.int p3)] maxLocals)) t := by
      intro t kt
      refine G188 _ ?_
      refine XS.icmpYes X181.here hx rfl (pc0 := 135) (pc' := 146) rfl (hb hby at_135) rfl (tlt (by decide)).1 (by decide) (by decide) ?_
      refine XS.iconst X181.here hx rfl (hb hby at_146) ?_
      refine XS.goto X181.here hx rfl (pc0 := 147) (pc' := 151) rfl (hb hby at_147) (by decide) (by decide) ?_
      refine XS.istore X181.here hx rfl (hb hby at_151) rfl (l' := #[iv p0, iv p1, iv p2, iv p3, iv 2, iv c0, iv c1, iv c2, rv b104, rv b125, iv 1]) rfl ?_
      refine XS.aload X181.here hx rfl (hb hby at_153) rfl rfl ?_
      exact kt
     obtain ⟨_, _, ⟨T190, L190, k190, n190⟩, -, X190, ⟨Lc190, hQ190, l190, y190, z190⟩, st190⟩ := Jvm.LawKit.callS X181 hx (y := (⟨"com/example/wary_bearer/warybearer/http/Http1Reader", "isFieldValue", "(Ljava/lang/String;)Z"⟩ : MethodName)) hown (mvT hZ (hq hw 34 rfl)) (mvT hZ (hq hw 35 rfl)) (mvT hZ (hq hw 36 rfl)) (mvT hZ (hq hw 37 rfl)) (by decide) (backOf (W := 0) (rmFVU2 l Z a0 hw [] b125 c0 c1 ta134 kb134 cst fv T134.heap n0 z168 A134 Fc134 Fv134 V134 fa165 hb0 hb1 SS) hZ (hq hw 37 rfl) (hq hw 36 rfl) (by decide) (by decide)) (g := (mkF m 155 #[iv p0, iv p1, iv p2, iv p3, iv 2, iv c0, iv c1, iv c2, rv b104, rv b125, iv 1] [(.ref b125)])) rfl (by rw [hml]; rfl) (argsL := [(.ref b125)]) (rest := []) (lenOf pd_17 rfl) rfl (by show 2 * 0 + _ ≤ _; exact Nat.le_of_eq rfl) (hb hby at_155) (fun _ _ => ⟨rfl, eh181, (by decide : 4 + 0 ≤ _), (by decide : 12 + 0 ≤ _)⟩)
     dsimp only [Pt.U, Pt.locs, Pt.cells, Pt.slots] at X190 l190 y190 z190 st190 hQ190
     subst l190 y190 z190
     obtain ⟨rfl, N190q, eh190⟩ := hQ190
     have N190 := Fr.app N181 N190q
     have G191 : ∀ t, Steps p.tables e below (T190.setTop (mkF m 160 #[iv p0, iv p1, iv p2, iv p3, iv 2, iv c0, iv c1, iv c2, rv b104, rv b125, iv 1] [(.int (1 : Int32)), (.int (own_fv [c0, c1]))])) t → Steps p.tables e below (s₁.setTop (entryFrame m #[(.int p0), (.int p1), (.int p2), (.int p3)] maxLocals)) t := by
      intro t kt
      refine G189 _ ?_
      refine st190 _ ?_
      refine XS.iload X190.here hx rfl (hb hby at_158) rfl ?_
      exact kt
     have hc160_192 : (own_fv [c0, c1]) = (1 : Int32) := by rw [own_fv, if_neg hc115_174, own_fv, if_neg hc129_183, own_fv]
     obtain ⟨fs, hr, hrun, hended, hRW⟩ := X190.leaveW (s := s) hS (by rw [show T190.heap = T134.heap from eh190]; exact hk) (v := some (.int (1 : Int32))) (fun h => by rw [Bd.returns] at h; cases h) (BodyLoose.notSynchronized Bd)
     refine ⟨_, _, G191 _ ?_, hrun, hended, _, _, rfl, ?_, hRW.1, hRW.2.1, hRW.2.2.1, hRW.2.2.2.mono (by decide) (by decide)⟩
     ·skip
      refine XS.icmpNo X190.here hx rfl (hb hby at_160) rfl (teq hc160_192).2 ?_
      refine XS.iconst X190.here hx rfl (hb hby at_163) ?_
      refine XS.goto X190.here hx rfl (pc0 := 164) (pc' := 168) rfl (hb hby at_164) (by decide) (by decide) ?_
      exact retN X190 hx (t := .boolean) Bd.returns (by simp) (hb hby at_168) hr
     ·show Q0 Z p0 p1 p2 p3 cst fv h0 n0 _ T190.heap _
      rw [eh190]
      exact ⟨rfl, N190⟩
 ·skip
  have G193 : ∀ t, Steps p.tables e below (s₁.setTop (mkF m 19 #[iv p0, iv p1, iv p2, iv p3, iv 3, iv c0, iv c1, iv c2, .unset, .unset, .unset] [(.int (3 : Int32))])) t → Steps p.tables e below (s₁.setTop (entryFrame m #[(.int p0), (.int p1), (.int p2), (.int p3)] maxLocals)) t := by
   intro t kt
   refine G2 _ ?_
   refine XS.iload X0.here hx rfl (hb hby at_17) rfl ?_
   exact kt
  have G194 : ∀ t, Steps p.tables e below (s₁.setTop (mkF m 33 #[iv p0, iv p1, iv p2, iv p3, iv 3, iv c0, iv c1, iv c2, .unset, .unset, .unset] [(.int (1 : Int32)), (.int (3 : Int32))])) t → Steps p.tables e below (s₁.setTop (entryFrame m #[(.int p0), (.int p1), (.int p2), (.int p3)] maxLocals)) t := by
   intro t kt
   refine G193 _ ?_
   refine XS.ifYes X0.here hx rfl (pc0 := 19) (pc' := 30) rfl (hb hby at_19) rfl ((if0 _ _).trans (feq (by decide)).2) (by decide) (by decide) ?_
   refine XS.iload X0.here hx rfl (hb hby at_30) rfl ?_
   refine XS.iconst X0.here hx rfl (hb hby at_32) ?_
   exact kt
  have G195 : ∀ t, Steps p.tables e below (s₁.setTop (mkF m 52 #[iv p0, iv p1, iv p2, iv p3, iv 3, iv c0, iv c1, iv c2, .unset, .unset, .unset] [(.int (2 : Int32)), (.int (3 : Int32))])) t → Steps p.tables e below (s₁.setTop (entryFrame m #[(.int p0), (.int p1), (.int p2), (.int p3)] maxLocals)) t := by
   intro t kt
   refine G194 _ ?_
   refine XS.icmpYes X0.here hx rfl (pc0 := 33) (pc' := 49) rfl (hb hby at_33) rfl (feq (by decide)).2 (by decide) (by decide) ?_
   refine XS.iload X0.here hx rfl (hb hby at_49) rfl ?_
   refine XS.iconst X0.here hx rfl (hb hby at_51) ?_
   exact kt
  obtain ⟨T196, h196, k196, X196, e196, E196, A196, st196⟩ := newP X0 hx hZ (hq hw 0 rfl) e0 (g := (mkF m 74 #[iv p0, iv p1, iv p2, iv p3, iv 3, iv c0, iv c1, iv c2, .unset, .unset, .unset] [(.int (3 : Int32))])) rfl (hb hby at_74) rfl (by decide) (cap := 3) (by decide) (by decide) (by decide) (by decide)
  obtain ⟨b196, g196⟩ : ∃ z, z = h0.size := ⟨_, rfl⟩
  rw [← g196] at A196 st196
  have g_b196 : n0 ≤ b196 := Nat.le_trans Z0 (Nat.le_of_eq g196.symm)
  have sz_b196 : h0.size ≤ b196 := Nat.le_trans kp0.1 (Nat.le_of_eq g196.symm)
  have ch197 : CHv Z own_EL s.vm h196 := CH0.ext E196
  have cr197 : CHr Z own_EL s.vm h0 s.vm h196 := CR0.trans (CHr.ext E196 CH0)
  have sf197_b196 : Safe Z own_EL s.vm h196 b196 := Safe.ext E196 CH0 (Safe.new (Nat.le_of_eq g196.symm))
  have fa198 := O0.ext E196
  have z199 : n0 ≤ h196.size := Nat.le_trans Z0 E196.1
  have hk := Nat.le_trans hk E196.1
  have kp200 : Keep h0 h196 [] := kp0.ext E196
  have fa201 : Arv Z h196 b196 k196 .char (3 : Int32) [(.int (0 : Int32)), (.int (0 : Int32)), (.int (0 : Int32))] (.int (0 : Int32)) := (Arv.new A196 (by decide)).pad (pad_rep [] (.int (0 : Int32)) 3)
  obtain ⟨cl202, Ar202, q202, S202, M202, H202, G202⟩ := id fa201
  have hin202 : ¬ ((0 : Int32) < 0 ∨ cl202.slots.size ≤ ((0 : Int32)).toNatClampNeg) := inb_of S202 ⟨by decide, by decide⟩
  obtain ⟨T203, h203, X203, e203, W203, st203⟩ := stC X196 hx hZ e196 Ar202 (j := (0 : Int32)) hin202 (g := (mkF m 80 #[iv p0, iv p1, iv p2, iv p3, iv 3, iv c0, iv c1, iv c2, .unset, .unset, .unset] [(.int c0), (.int (0 : Int32)), (.ref b196), (.ref b196)])) rfl rfl (hb hby at_80)
  have ch204 : CHv Z own_EL s.vm h203 := ch197.wr W203 sf197_b196
  have cr204 : CHr Z own_EL s.vm h0 s.vm h203 := cr197.trans (CHr.wr W203 sf197_b196 ch197)
  have sf204_b196 : Safe Z own_EL s.vm h203 b196 := Safe.wr W203 sf197_b196 ch197 sf197_b196
  have fa205 := fa198.wr W203 g_b196
  have z206 : n0 ≤ h203.size := Nat.le_trans z199 (Nat.le_of_eq W203.size.symm)
  have hk := Nat.le_trans hk (Nat.le_of_eq W203.size.symm)
  have kp207 : Keep h0 h203 [] := kp200.wr W203 (Or.inr sz_b196)
  have fa208 : Arv Z h203 b196 k196 .char (3 : Int32) [(.int (nar .char c0)), (.int (0 : Int32)), (.int (0 : Int32))] (.int (0 : Int32)) := Arv.set Ar202 q202 S202 M202 H202 G202 (fits_nar_char _) W203 0 rfl (Nat.le_of_ble_eq_true rfl)
  have N203 := Fr.snoc X203 N0 g_b196
  obtain ⟨cl209, Ar209, q209, S209, M209, H209, G209⟩ := id fa208
  have hin209 : ¬ ((1 : Int32) < 0 ∨ cl209.slots.size ≤ ((1 : Int32)).toNatClampNeg) := inb_of S209 ⟨by decide, by decide⟩
  obtain ⟨T210, h210, X210, e210, W210, st210⟩ := stC X203 hx hZ e203 Ar209 (j := (1 : Int32)) hin209 (g := (mkF m 85 #[iv p0, iv p1, iv p2, iv p3, iv 3, iv c0, iv c1, iv c2, .unset, .unset, .unset] [(.int c1), (.int (1 : Int32)), (.ref b196), (.ref b196)])) rfl rfl (hb hby at_85)
  have ch211 : CHv Z own_EL s.vm h210 := ch204.wr W210 sf204_b196
  have cr211 : CHr Z own_EL s.vm h0 s.vm h210 := cr204.trans (CHr.wr W210 sf204_b196 ch204)
  have sf211_b196 : Safe Z own_EL s.vm h210 b196 := Safe.wr W210 sf204_b196 ch204 sf204_b196
  have fa212 := fa205.wr W210 g_b196
  have z213 : n0 ≤ h210.size := Nat.le_trans z206 (Nat.le_of_eq W210.size.symm)
  have hk := Nat.le_trans hk (Nat.le_of_eq W210.size.symm)
  have kp214 : Keep h0 h210 [] := kp207.wr W210 (Or.inr sz_b196)
  have fa215 : Arv Z h210 b196 k196 .char (3 : Int32) [(.int (nar .char c0)), (.int (nar .char c1)), (.int (0 : Int32))] (.int (0 : Int32)) := Arv.set Ar209 q209 S209 M209 H209 G209 (fits_nar_char _) W210 1 rfl (Nat.le_of_ble_eq_true rfl)
  have N210 := Fr.snoc X210 N203 g_b196
  obtain ⟨cl216, Ar216, q216, S216, M216, H216, G216⟩ := id fa215
  have hin216 : ¬ ((2 : Int32) < 0 ∨ cl216.slots.size ≤ ((2 : Int32)).toNatClampNeg) := inb_of S216 ⟨by decide, by decide⟩
  obtain ⟨T217, h217, X217, e217, W217, st217⟩ := stC X210 hx hZ e210 Ar216 (j := (2 : Int32)) hin216 (g := (mkF m 90 #[iv p0, iv p1, iv p2, iv p3, iv 3, iv c0, iv c1, iv c2, .unset, .unset, .unset] [(.int c2), (.int (2 : Int32)), (.ref b196), (.ref b196)])) rfl rfl (hb hby at_90)
  have ch218 : CHv Z own_EL s.vm h217 := ch211.wr W217 sf211_b196
  have cr218 : CHr Z own_EL s.vm h0 s.vm h217 := cr211.trans (CHr.wr W217 sf211_b196 ch211)
  have sf218_b196 : Safe Z own_EL s.vm h217 b196 := Safe.wr W217 sf211_b196 ch211 sf211_b196
  have fa219 := fa212.wr W217 g_b196
  have z220 : n0 ≤ h217.size := Nat.le_trans z213 (Nat.le_of_eq W217.size.symm)
  have hk := Nat.le_trans hk (Nat.le_of_eq W217.size.symm)
  have kp221 : Keep h0 h217 [] := kp214.wr W217 (Or.inr sz_b196)
  have fa222 : Arv Z h217 b196 k196 .char (3 : Int32) [(.int (nar .char c0)), (.int (nar .char c1)), (.int (nar .char c2))] (.int (0 : Int32)) := Arv.set Ar216 q216 S216 M216 H216 G216 (fits_nar_char _) W217 2 rfl (Nat.le_of_ble_eq_true rfl)
  have N217 := Fr.snoc X217 N210 g_b196
  have fa223 : Arv Z h217 b196 k196 .char (3 : Int32) [(.int c0), (.int c1), (.int c2)] (.int (0 : Int32)) := by have q := fa222; rw [own_narc c0 hb0, own_narc c1 hb1, own_narc c2 hb2] at q; exact q
  obtain ⟨T224, h224, X224, e224, E224, A224, D224, -, st224⟩ := newO X217 hx hZ hown (hq hw 1 rfl) (hq hw 2 rfl) (hq hw 3 rfl) e217 (g := (mkF m 93 #[iv p0, iv p1, iv p2, iv p3, iv 3, iv c0, iv c1, iv c2, rv b196, .unset, .unset] [])) rfl (hb hby at_93) (by decide) (by decide)
  obtain ⟨b224, g224⟩ : ∃ z, z = h217.size := ⟨_, rfl⟩
  rw [← g224] at A224 D224 st224
  have g_b224 : n0 ≤ b224 := Nat.le_trans z220 (Nat.le_of_eq g224.symm)
  have sz_b224 : h0.size ≤ b224 := Nat.le_trans kp221.1 (Nat.le_of_eq g224.symm)
  have ne_b196_b224 : b196 ≠ b224 := Nat.ne_of_lt (Nat.lt_of_lt_of_le fa223.lt (Nat.le_of_eq g224.symm))
  have ch225 : CHv Z own_EL s.vm h224 := ch218.ext E224
  have cr225 : CHr Z own_EL s.vm h0 s.vm h224 := cr218.trans (CHr.ext E224 ch218)
  have sf225_b196 : Safe Z own_EL s.vm h224 b196 := Safe.ext E224 ch218 sf218_b196
  have sf225_b224 : Safe Z own_EL s.vm h224 b224 := Safe.ext E224 ch218 (Safe.new (Nat.le_of_eq g224.symm))
  have fa226 := fa219.ext E224
  have fa227 := fa223.ext E224
  have z228 : n0 ≤ h224.size := Nat.le_trans z220 E224.1
  have hk := Nat.le_trans hk E224.1
  have kp229 : Keep h0 h224 [] := kp221.ext E224
  have fa230 : Fld Z h224 b224 "java/lang/String" "coder" "B" (.int (0 : Int32)) := D224 (Or.inr (hq hw 27 rfl)) (ty := .byte) (by decide)
  have fa231 : Fld Z h224 b224 "java/lang/String" "value" "[B" .null := D224 (Or.inr (hq hw 29 rfl)) (ty := (.array .byte)) (by decide)
  have G232 : ∀ t, Steps p.tables e below (T224.setTop (mkF m 99 #[iv p0, iv p1, iv p2, iv p3, iv 3, iv c0, iv c1, iv c2, rv b196, .unset, .unset] [(.ref b196), (.ref b224), (.ref b224)])) t → Steps p.tables e below (s₁.setTop (entryFrame m #[(.int p0), (.int p1), (.int p2), (.int p3)] maxLocals)) t := by
   intro t kt
   refine G195 _ ?_
   refine XS.icmpYes X0.here hx rfl (pc0 := 52) (pc' := 73) rfl (hb hby at_52) rfl (feq (by decide)).2 (by decide) (by decide) ?_
   refine XS.iconst X0.here hx rfl (hb hby at_73) ?_
   show Steps p.tables e below (s₁.setTop (mkF m 74 #[iv p0, iv p1, iv p2, iv p3, iv 3, iv c0, iv c1, iv c2, .unset, .unset, .unset] [(.int (3 : Int32))])) _
   refine st196 _ ?_
   refine XS.dup X196.here hx rfl (hb hby at_76) rfl rfl ?_
   refine XS.iconst X196.here hx rfl (hb hby at_77) ?_
   refine XS.iload X196.here hx rfl (hb hby at_78) rfl ?_
   refine st203 _ ?_
   refine XS.dup X203.here hx rfl (hb hby at_81) rfl rfl ?_
   refine XS.iconst X203.here hx rfl (hb hby at_82) ?_
   refine XS.iload X203.here hx rfl (hb hby at_83) rfl ?_
   refine st210 _ ?_
   refine XS.dup X210.here hx rfl (hb hby at_86) rfl rfl ?_
   refine XS.iconst X210.here hx rfl (hb hby at_87) ?_
   refine XS.iload X210.here hx rfl (hb hby at_88) rfl ?_
   refine st217 _ ?_
   refine XS.astore X217.here hx rfl (hb hby at_91) rfl rfl (l' := #[iv p0, iv p1, iv p2, iv p3, iv 3, iv c0, iv c1, iv c2, rv b196, .unset, .unset]) rfl ?_
   refine st224 _ ?_
   refine XS.dup X224.here hx rfl (hb hby at_96) rfl rfl ?_
   refine XS.aload X224.here hx rfl (hb hby at_97) rfl rfl ?_
   exact kt
  obtain ⟨_, _, ⟨T233, L233, k233, n233⟩, -, X233, ⟨Lc233, hQ233, l233, y233, z233⟩, st233⟩ := X224.specialBack hx (y := (⟨"java/lang/String", "<init>", "([C)V"⟩ : MethodName)) rfl hown (mvT hZ (hq hw 4 rfl)) (mvT hZ (hq hw 5 rfl)) (mvT hZ (hq hw 6 rfl)) (by decide) (backOf (W := 1) (rmSF_3 l Z a0 hw [] b224 b196 c0 c1 c2 k196 cst fv h224 n0 z228 A224 fa231 fa230 fa227 fa226 g_b224 (Ne.symm ne_b196_b224) hb0 hb1 hb2 SS) hZ (hq hw 6 rfl) (hq hw 3 rfl) (by decide) (by decide)) (g := (mkF m 99 #[iv p0, iv p1, iv p2, iv p3, iv 3, iv c0, iv c1, iv c2, rv b196, .unset, .unset] [(.ref b196), (.ref b224), (.ref b224)])) rfl (by rw [hml]; rfl) (Steps.refl _) (a := b224) (argsL := [(.ref b196)]) (rest := [(.ref b224)]) (lenOf pd_16 rfl) rfl (by show 2 * 0 + _ ≤ _; exact Nat.le_of_eq rfl) (hb hby at_99) (fun _ _ => ⟨rfl, e224, (by decide : 2 + 2 ≤ _), (by decide : 7 + 9 ≤ _)⟩)
  dsimp only [Pt.U, Pt.locs, Pt.cells, Pt.slots] at X233 l233 y233 z233 st233 hQ233
  subst l233 y233 z233
  rcases hQ233 with ⟨rfl, N233q, K233, A233, hq233, Fc233, ta233, kb233, Fv233, sz233, g_ta233, V233⟩ | ⟨rfl, N233q, K233, A233, hq233, Fc233, ta233, kb233, Fv233, sz233, g_ta233, V233⟩
  ·skip
   have N233 := Fr.app N217 N233q
   have szk233 : h0.size ≤ ta233 := Nat.le_trans kp229.1 sz233
   have ne_b196_ta233 : b196 ≠ ta233 := Nat.ne_of_lt (Nat.lt_of_lt_of_le fa227.lt sz233)
   have ne_b224_ta233 : b224 ≠ ta233 := Nat.ne_of_lt (Nat.lt_of_lt_of_le A224.lt sz233)
   have ch234 : CHv Z own_EL s.vm T233.heap := ch225.keep K233 (allS sf225_b224 all0)
   have cr234 : CHr Z own_EL s.vm h0 s.vm T233.heap := cr225.trans (CHr.keep K233 (allS sf225_b224 all0) ch225)
   have sf234_b196 : Safe Z own_EL s.vm T233.heap b196 := Safe.keep K233 (allS sf225_b224 all0) ch225 sf225_b196
   have sf234_b224 : Safe Z own_EL s.vm T233.heap b224 := Safe.keep K233 (allS sf225_b224 all0) ch225 sf225_b224
   have fa235 := fa226.keep K233 (allS g_b224 all0)
   have fa236 := fa227.keep K233 (ninS ne_b196_b224 nin0)
   have fa237 := A224.keep K233
   have z238 : n0 ≤ T233.heap.size := Nat.le_trans z228 K233.1
   have hk := Nat.le_trans hk K233.1
   have kp239 : Keep h0 T233.heap [] := kp229.trans K233 (allS (Or.inr sz_b224) all0)
   have G240 : ∀ t, Steps p.tables e below (T233.setTop (mkF m 107 #[iv p0, iv p1, iv p2, iv p3, iv 3, iv c0, iv c1, iv c2, rv b196, rv b224, .unset] [(.int (1 : Int32)), (.int (3 : Int32))])) t → Steps p.tables e below (s₁.setTop (entryFrame m #[(.int p0), (.int p1), (.int p2), (.int p3)] maxLocals)) t := by
    intro t kt
    refine G232 _ ?_
    refine st233.trans ?_
    refine XS.astore X233.here hx rfl (hb hby at_102) rfl rfl (l' := #[iv p0, iv p1, iv p2, iv p3, iv 3, iv c0, iv c1, iv c2, rv b196, rv b224, .unset]) rfl ?_
    refine XS.iload X233.here hx rfl (hb hby at_104) rfl ?_
    show Steps p.tables e below (T233.setTop (mkF m 106 #[iv p0, iv p1, iv p2, iv p3, iv 3, iv c0, iv c1, iv c2, rv b196, rv b224, .unset] [(.int (3 : Int32))])) _
    refine XS.iconst X233.here hx rfl (hb hby at_106) ?_
    exact kt
   have G241 : ∀ t, Steps p.tables e below (T233.setTop (mkF m 112 #[iv p0, iv p1, iv p2, iv p3, iv 3, iv c0, iv c1, iv c2, rv b196, rv b224, .unset] [(.int c0)])) t → Steps p.tables e below (s₁.setTop (entryFrame m #[(.int p0), (.int p1), (.int p2), (.int p3)] maxLocals)) t := by
    intro t kt
    refine G240 _ ?_
    refine XS.icmpNo X233.here hx rfl (hb hby at_107) rfl (flt (by decide)).1 ?_
    refine XS.iload X233.here hx rfl (hb hby at_110) rfl ?_
    exact kt
   obtain ⟨_, _, ⟨T242, L242, k242, n242⟩, -, X242, ⟨Lc242, hQ242, l242, y242, z242⟩, st242⟩ := Jvm.LawKit.callS X233 hx (y := (⟨"com/example/wary_bearer/warybearer/http/Http1ReaderIsFieldValuePinLaw", "allowed", "(C)Z"⟩ : MethodName)) hown (mvT hZ (hq hw 30 rfl)) (mvT hZ (hq hw 31 rfl)) (mvT hZ (hq hw 32 rfl)) (mvT hZ (hq hw 33 rfl)) (by decide) (backOf (W := 0) (rm7 l Z a0 hw [] c0  T233.heap n0 z238 ) hZ (hq hw 33 rfl) (hq hw 32 rfl) (by decide) (by decide)) (g := (mkF m 112 #[iv p0, iv p1, iv p2, iv p3, iv 3, iv c0, iv c1, iv c2, rv b196, rv b224, .unset] [(.int c0)])) rfl (by rw [hml]; rfl) (argsL := [(.int c0)]) (rest := []) (lenOf pd_18 rfl) rfl (by show 2 * 0 + _ ≤ _; exact Nat.le_of_eq rfl) (hb hby at_112) (fun _ _ => ⟨rfl, rfl, (by decide : 4 + 0 ≤ _), (by decide : 16 + 0 ≤ _)⟩)
   dsimp only [Pt.U, Pt.locs, Pt.cells, Pt.slots] at X242 l242 y242 z242 st242 hQ242
   subst l242 y242 z242
   obtain ⟨rfl, N242q, eh242⟩ := hQ242
   have N242 := Fr.app N233 N242q
   have G243 : ∀ t, Steps p.tables e below (T242.setTop (mkF m 115 #[iv p0, iv p1, iv p2, iv p3, iv 3, iv c0, iv c1, iv c2, rv b196, rv b224, .unset] [(.int (fal c0))])) t → Steps p.tables e below (s₁.setTop (entryFrame m #[(.int p0), (.int p1), (.int p2), (.int p3)] maxLocals)) t := by
    intro t kt
    refine G241 _ ?_
    refine st242 _ ?_
    exact kt
   by_cases hc115_244 : (fal c0) = (0 : Int32)
   ·skip
    have G245 : ∀ t, Steps p.tables e below (T242.setTop (mkF m 155 #[iv p0, iv p1, iv p2, iv p3, iv 3, iv c0, iv c1, iv c2, rv b196, rv b224, iv 0] [(.ref b224)])) t → Steps p.tables e below (s₁.setTop (entryFrame m #[(.int p0), (.int p1), (.int p2), (.int p3)] maxLocals)) t := by
     intro t kt
     refine G243 _ ?_
     refine XS.ifYes X242.here hx rfl (pc0 := 115) (pc' := 150) rfl (hb hby at_115) rfl ((if0 _ _).trans (teq hc115_244).1) (by decide) (by decide) ?_
     refine XS.iconst X242.here hx rfl (hb hby at_150) ?_
     refine XS.istore X242.here hx rfl (hb hby at_151) rfl (l' := #[iv p0, iv p1, iv p2, iv p3, iv 3, iv c0, iv c1, iv c2, rv b196, rv b224, iv 0]) rfl ?_
     refine XS.aload X242.here hx rfl (hb hby at_153) rfl rfl ?_
     exact kt
    obtain ⟨_, _, ⟨T246, L246, k246, n246⟩, -, X246, ⟨Lc246, hQ246, l246, y246, z246⟩, st246⟩ := Jvm.LawKit.callS X242 hx (y := (⟨"com/example/wary_bearer/warybearer/http/Http1Reader", "isFieldValue", "(Ljava/lang/String;)Z"⟩ : MethodName)) hown (mvT hZ (hq hw 34 rfl)) (mvT hZ (hq hw 35 rfl)) (mvT hZ (hq hw 36 rfl)) (mvT hZ (hq hw 37 rfl)) (by decide) (backOf (W := 0) (rmFVL3 l Z a0 hw [] b224 c0 c1 c2 ta233 kb233 cst fv T233.heap n0 z238 A233 Fc233 Fv233 V233 fa235 hb0 hb1 hb2 hq233.1 hq233.2.1 hq233.2.2 SS) hZ (hq hw 37 rfl) (hq hw 36 rfl) (by decide) (by decide)) (g := (mkF m 155 #[iv p0, iv p1, iv p2, iv p3, iv 3, iv c0, iv c1, iv c2, rv b196, rv b224, iv 0] [(.ref b224)])) rfl (by rw [hml]; rfl) (argsL := [(.ref b224)]) (rest := []) (lenOf pd_17 rfl) rfl (by show 2 * 0 + _ ≤ _; exact Nat.le_of_eq rfl) (hb hby at_155) (fun _ _ => ⟨rfl, eh242, (by decide : 4 + 0 ≤ _), (by decide : 16 + 0 ≤ _)⟩)
    dsimp only [Pt.U, Pt.locs, Pt.cells, Pt.slots] at X246 l246 y246 z246 st246 hQ246
    subst l246 y246 z246
    obtain ⟨rfl, N246q, eh246⟩ := hQ246
    have N246 := Fr.app N242 N246q
    have G247 : ∀ t, Steps p.tables e below (T246.setTop (mkF m 160 #[iv p0, iv p1, iv p2, iv p3, iv 3, iv c0, iv c1, iv c2, rv b196, rv b224, iv 0] [(.int (0 : Int32)), (.int (own_fv [c0, c1, c2]))])) t → Steps p.tables e below (s₁.setTop (entryFrame m #[(.int p0), (.int p1), (.int p2), (.int p3)] maxLocals)) t := by
     intro t kt
     refine G245 _ ?_
     refine st246 _ ?_
     refine XS.iload X246.here hx rfl (hb hby at_158) rfl ?_
     exact kt
    have hc160_248 : (own_fv [c0, c1, c2]) = (0 : Int32) := by rw [own_fv, if_pos hc115_244]
    obtain ⟨fs, hr, hrun, hended, hRW⟩ := X246.leaveW (s := s) hS (by rw [show T246.heap = T233.heap from eh246]; exact hk) (v := some (.int (1 : Int32))) (fun h => by rw [Bd.returns] at h; cases h) (BodyLoose.notSynchronized Bd)
    refine ⟨_, _, G247 _ ?_, hrun, hended, _, _, rfl, ?_, hRW.1, hRW.2.1, hRW.2.2.1, hRW.2.2.2.mono (by decide) (by decide)⟩
    ·skip
     refine XS.icmpNo X246.here hx rfl (hb hby at_160) rfl (teq hc160_248).2 ?_
     refine XS.iconst X246.here hx rfl (hb hby at_163) ?_
     refine XS.goto X246.here hx rfl (pc0 := 164) (pc' := 168) rfl (hb hby at_164) (by decide) (by decide) ?_
     exact retN X246 hx (t := .boolean) Bd.returns (by simp) (hb hby at_168) hr
    ·show Q0 Z p0 p1 p2 p3 cst fv h0 n0 _ T246.heap _
     rw [eh246]
     exact ⟨rfl, N246⟩
   ·skip
    have G249 : ∀ t, Steps p.tables e below (T242.setTop (mkF m 121 #[iv p0, iv p1, iv p2, iv p3, iv 3, iv c0, iv c1, iv c2, rv b196, rv b224, .unset] [(.int (2 : Int32)), (.int (3 : Int32))])) t → Steps p.tables e below (s₁.setTop (entryFrame m #[(.int p0), (.int p1), (.int p2), (.int p3)] maxLocals)) t := by
     intro t kt
     refine G243 _ ?_
     refine XS.ifNo X242.here hx rfl (hb hby at_115) rfl ((if0 _ _).trans (feq hc115_244).1) ?_
     refine XS.iload X242.here hx rfl (hb hby at_118) rfl ?_
     refine XS.iconst X242.here hx rfl (hb hby at_120) ?_
     exact kt
    have G250 : ∀ t, Steps p.tables e below (T242.setTop (mkF m 126 #[iv p0, iv p1, iv p2, iv p3, iv 3, iv c0, iv c1, iv c2, rv b196, rv b224, .unset] [(.int c1)])) t → Steps p.tables e below (s₁.setTop (entryFrame m #[(.int p0), (.int p1), (.int p2), (.int p3)] maxLocals)) t := by
     intro t kt
     refine G249 _ ?_
     refine XS.icmpNo X242.here hx rfl (hb hby at_121) rfl (flt (by decide)).1 ?_
     refine XS.iload X242.here hx rfl (hb hby at_124) rfl ?_
     exact kt
    obtain ⟨_, _, ⟨T251, L251, k251, n251⟩, -, X251, ⟨Lc251, hQ251, l251, y251, z251⟩, st251⟩ := Jvm.LawKit.callS X242 hx (y := (⟨"com/example/wary_bearer/warybearer/http/Http1ReaderIsFieldValuePinLaw", "allowed", "(C)Z"⟩ : MethodName)) hown (mvT hZ (hq hw 30 rfl)) (mvT hZ (hq hw 31 rfl)) (mvT hZ (hq hw 32 rfl)) (mvT hZ (hq hw 33 rfl)) (by decide) (backOf (W := 0) (rm7 l Z a0 hw [] c1  T233.heap n0 z238 ) hZ (hq hw 33 rfl) (hq hw 32 rfl) (by decide) (by decide)) (g := (mkF m 126 #[iv p0, iv p1, iv p2, iv p3, iv 3, iv c0, iv c1, iv c2, rv b196, rv b224, .unset] [(.int c1)])) rfl (by rw [hml]; rfl) (argsL := [(.int c1)]) (rest := []) (lenOf pd_18 rfl) rfl (by show 2 * 0 + _ ≤ _; exact Nat.le_of_eq rfl) (hb hby at_126) (fun _ _ => ⟨rfl, eh242, (by decide : 4 + 0 ≤ _), (by decide : 16 + 0 ≤ _)⟩)
    dsimp only [Pt.U, Pt.locs, Pt.cells, Pt.slots] at X251 l251 y251 z251 st251 hQ251
    subst l251 y251 z251
    obtain ⟨rfl, N251q, eh251⟩ := hQ251
    have N251 := Fr.app N242 N251q
    have G252 : ∀ t, Steps p.tables e below (T251.setTop (mkF m 129 #[iv p0, iv p1, iv p2, iv p3, iv 3, iv c0, iv c1, iv c2, rv b196, rv b224, .unset] [(.int (fal c1))])) t → Steps p.tables e below (s₁.setTop (entryFrame m #[(.int p0), (.int p1), (.int p2), (.int p3)] maxLocals)) t := by
     intro t kt
     refine G250 _ ?_
     refine st251 _ ?_
     exact kt
    by_cases hc129_253 : (fal c1) = (0 : Int32)
    ·skip
     have G254 : ∀ t, Steps p.tables e below (T251.setTop (mkF m 155 #[iv p0, iv p1, iv p2, iv p3, iv 3, iv c0, iv c1, iv c2, rv b196, rv b224, iv 0] [(.ref b224)])) t → Steps p.tables e below (s₁.setTop (entryFrame m #[(.int p0), (.int p1), (.int p2), (.int p3)] maxLocals)) t := by
      intro t kt
      refine G252 _ ?_
      refine XS.ifYes X251.here hx rfl (pc0 := 129) (pc' := 150) rfl (hb hby at_129) rfl ((if0 _ _).trans (teq hc129_253).1) (by decide) (by decide) ?_
      refine XS.iconst X251.here hx rfl (hb hby at_150) ?_
      refine XS.istore X251.here hx rfl (hb hby at_151) rfl (l' := #[iv p0, iv p1, iv p2, iv p3, iv 3, iv c0, iv c1, iv c2, rv b196, rv b224, iv 0]) rfl ?_
      refine XS.aload X251.here hx rfl (hb hby at_153) rfl rfl ?_
      exact kt
     obtain ⟨_, _, ⟨T255, L255, k255, n255⟩, -, X255, ⟨Lc255, hQ255, l255, y255, z255⟩, st255⟩ := Jvm.LawKit.callS X251 hx (y := (⟨"com/example/wary_bearer/warybearer/http/Http1Reader", "isFieldValue", "(Ljava/lang/String;)Z"⟩ : MethodName)) hown (mvT hZ (hq hw 34 rfl)) (mvT hZ (hq hw 35 rfl)) (mvT hZ (hq hw 36 rfl)) (mvT hZ (hq hw 37 rfl)) (by decide) (backOf (W := 0) (rmFVL3 l Z a0 hw [] b224 c0 c1 c2 ta233 kb233 cst fv T233.heap n0 z238 A233 Fc233 Fv233 V233 fa235 hb0 hb1 hb2 hq233.1 hq233.2.1 hq233.2.2 SS) hZ (hq hw 37 rfl) (hq hw 36 rfl) (by decide) (by decide)) (g := (mkF m 155 #[iv p0, iv p1, iv p2, iv p3, iv 3, iv c0, iv c1, iv c2, rv b196, rv b224, iv 0] [(.ref b224)])) rfl (by rw [hml]; rfl) (argsL := [(.ref b224)]) (rest := []) (lenOf pd_17 rfl) rfl (by show 2 * 0 + _ ≤ _; exact Nat.le_of_eq rfl) (hb hby at_155) (fun _ _ => ⟨rfl, eh251, (by decide : 4 + 0 ≤ _), (by decide : 16 + 0 ≤ _)⟩)
     dsimp only [Pt.U, Pt.locs, Pt.cells, Pt.slots] at X255 l255 y255 z255 st255 hQ255
     subst l255 y255 z255
     obtain ⟨rfl, N255q, eh255⟩ := hQ255
     have N255 := Fr.app N251 N255q
     have G256 : ∀ t, Steps p.tables e below (T255.setTop (mkF m 160 #[iv p0, iv p1, iv p2, iv p3, iv 3, iv c0, iv c1, iv c2, rv b196, rv b224, iv 0] [(.int (0 : Int32)), (.int (own_fv [c0, c1, c2]))])) t → Steps p.tables e below (s₁.setTop (entryFrame m #[(.int p0), (.int p1), (.int p2), (.int p3)] maxLocals)) t := by
      intro t kt
      refine G254 _ ?_
      refine st255 _ ?_
      refine XS.iload X255.here hx rfl (hb hby at_158) rfl ?_
      exact kt
     have hc160_257 : (own_fv [c0, c1, c2]) = (0 : Int32) := by rw [own_fv, if_neg hc115_244, own_fv, if_pos hc129_253]
     obtain ⟨fs, hr, hrun, hended, hRW⟩ := X255.leaveW (s := s) hS (by rw [show T255.heap = T233.heap from eh255]; exact hk) (v := some (.int (1 : Int32))) (fun h => by rw [Bd.returns] at h; cases h) (BodyLoose.notSynchronized Bd)
     refine ⟨_, _, G256 _ ?_, hrun, hended, _, _, rfl, ?_, hRW.1, hRW.2.1, hRW.2.2.1, hRW.2.2.2.mono (by decide) (by decide)⟩
     ·skip
      refine XS.icmpNo X255.here hx rfl (hb hby at_160) rfl (teq hc160_257).2 ?_
      refine XS.iconst X255.here hx rfl (hb hby at_163) ?_
      refine XS.goto X255.here hx rfl (pc0 := 164) (pc' := 168) rfl (hb hby at_164) (by decide) (by decide) ?_
      exact retN X255 hx (t := .boolean) Bd.returns (by simp) (hb hby at_168) hr
     ·show Q0 Z p0 p1 p2 p3 cst fv h0 n0 _ T255.heap _
      rw [eh255]
      exact ⟨rfl, N255⟩
    ·skip
     have G258 : ∀ t, Steps p.tables e below (T251.setTop (mkF m 135 #[iv p0, iv p1, iv p2, iv p3, iv 3, iv c0, iv c1, iv c2, rv b196, rv b224, .unset] [(.int (3 : Int32)), (.int (3 : Int32))])) t → Steps p.tables e below (s₁.setTop (entryFrame m #[(.int p0), (.int p1), (.int p2), (.int p3)] maxLocals)) t := by
      intro t kt
      refine G252 _ ?_
      refine XS.ifNo X251.here hx rfl (hb hby at_129) rfl ((if0 _ _).trans (feq hc129_253).1) ?_
      refine XS.iload X251.here hx rfl (hb hby at_132) rfl ?_
      refine XS.iconst X251.here hx rfl (hb hby at_134) ?_
      exact kt
     have G259 : ∀ t, Steps p.tables e below (T251.setTop (mkF m 140 #[iv p0, iv p1, iv p2, iv p3, iv 3, iv c0, iv c1, iv c2, rv b196, rv b224, .unset] [(.int c2)])) t → Steps p.tables e below (s₁.setTop (entryFrame m #[(.int p0), (.int p1), (.int p2), (.int p3)] maxLocals)) t := by
      intro t kt
      refine G258 _ ?_
      refine XS.icmpNo X251.here hx rfl (hb hby at_135) rfl (flt (by decide)).1 ?_
      refine XS.iload X251.here hx rfl (hb hby at_138) rfl ?_
      exact kt
     obtain ⟨_, _, ⟨T260, L260, k260, n260⟩, -, X260, ⟨Lc260, hQ260, l260, y260, z260⟩, st260⟩ := Jvm.LawKit.callS X251 hx (y := (⟨"com/example/wary_bearer/warybearer/http/Http1ReaderIsFieldValuePinLaw", "allowed", "(C)Z"⟩ : MethodName)) hown (mvT hZ (hq hw 30 rfl)) (mvT hZ (hq hw 31 rfl)) (mvT hZ (hq hw 32 rfl)) (mvT hZ (hq hw 33 rfl)) (by decide) (backOf (W := 0) (rm7 l Z a0 hw [] c2  T233.heap n0 z238 ) hZ (hq hw 33 rfl) (hq hw 32 rfl) (by decide) (by decide)) (g := (mkF m 140 #[iv p0, iv p1, iv p2, iv p3, iv 3, iv c0, iv c1, iv c2, rv b196, rv b224, .unset] [(.int c2)])) rfl (by rw [hml]; rfl) (argsL := [(.int c2)]) (rest := []) (lenOf pd_18 rfl) rfl (by show 2 * 0 + _ ≤ _; exact Nat.le_of_eq rfl) (hb hby at_140) (fun _ _ => ⟨rfl, eh251, (by decide : 4 + 0 ≤ _), (by decide : 16 + 0 ≤ _)⟩)
     dsimp only [Pt.U, Pt.locs, Pt.cells, Pt.slots] at X260 l260 y260 z260 st260 hQ260
     subst l260 y260 z260
     obtain ⟨rfl, N260q, eh260⟩ := hQ260
     have N260 := Fr.app N251 N260q
     have G261 : ∀ t, Steps p.tables e below (T260.setTop (mkF m 143 #[iv p0, iv p1, iv p2, iv p3, iv 3, iv c0, iv c1, iv c2, rv b196, rv b224, .unset] [(.int (fal c2))])) t → Steps p.tables e below (s₁.setTop (entryFrame m #[(.int p0), (.int p1), (.int p2), (.int p3)] maxLocals)) t := by
      intro t kt
      refine G259 _ ?_
      refine st260 _ ?_
      exact kt
     by_cases hc143_262 : (fal c2) = (0 : Int32)
     ·skip
      have G263 : ∀ t, Steps p.tables e below (T260.setTop (mkF m 155 #[iv p0, iv p1, iv p2, iv p3, iv 3, iv c0, iv c1, iv c2, rv b196, rv b224, iv 0] [(.ref b224)])) t → Steps p.tables e below (s₁.setTop (entryFrame m #[(.int p0), (.int p1), (.int p2), (.int p3)] maxLocals)) t := by
       intro t kt
       refine G261 _ ?_
       refine XS.ifYes X260.here hx rfl (pc0 := 143) (pc' := 150) rfl (hb hby at_143) rfl ((if0 _ _).trans (teq hc143_262).1) (by decide) (by decide) ?_
       refine XS.iconst X260.here hx rfl (hb hby at_150) ?_
       refine XS.istore X260.here hx rfl (hb hby at_151) rfl (l' := #[iv p0, iv p1, iv p2, iv p3, iv 3, iv c0, iv c1, iv c2, rv b196, rv b224, iv 0]) rfl ?_
       refine XS.aload X260.here hx rfl (hb hby at_153) rfl rfl ?_
       exact kt
      obtain ⟨_, _, ⟨T264, L264, k264, n264⟩, -, X264, ⟨Lc264, hQ264, l264, y264, z264⟩, st264⟩ := Jvm.LawKit.callS X260 hx (y := (⟨"com/example/wary_bearer/warybearer/http/Http1Reader", "isFieldValue", "(Ljava/lang/String;)Z"⟩ : MethodName)) hown (mvT hZ (hq hw 34 rfl)) (mvT hZ (hq hw 35 rfl)) (mvT hZ (hq hw 36 rfl)) (mvT hZ (hq hw 37 rfl)) (by decide) (backOf (W := 0) (rmFVL3 l Z a0 hw [] b224 c0 c1 c2 ta233 kb233 cst fv T233.heap n0 z238 A233 Fc233 Fv233 V233 fa235 hb0 hb1 hb2 hq233.1 hq233.2.1 hq233.2.2 SS) hZ (hq hw 37 rfl) (hq hw 36 rfl) (by decide) (by decide)) (g := (mkF m 155 #[iv p0, iv p1, iv p2, iv p3, iv 3, iv c0, iv c1, iv c2, rv b196, rv b224, iv 0] [(.ref b224)])) rfl (by rw [hml]; rfl) (argsL := [(.ref b224)]) (rest := []) (lenOf pd_17 rfl) rfl (by show 2 * 0 + _ ≤ _; exact Nat.le_of_eq rfl) (hb hby at_155) (fun _ _ => ⟨rfl, eh260, (by decide : 4 + 0 ≤ _), (by decide : 16 + 0 ≤ _)⟩)
      dsimp only [Pt.U, Pt.locs, Pt.cells, Pt.slots] at X264 l264 y264 z264 st264 hQ264
      subst l264 y264 z264
      obtain ⟨rfl, N264q, eh264⟩ := hQ264
      have N264 := Fr.app N260 N264q
      have G265 : ∀ t, Steps p.tables e below (T264.setTop (mkF m 160 #[iv p0, iv p1, iv p2, iv p3, iv 3, iv c0, iv c1, iv c2, rv b196, rv b224, iv 0] [(.int (0 : Int32)), (.int (own_fv [c0, c1, c2]))])) t → Steps p.tables e below (s₁.setTop (entryFrame m #[(.int p0), (.int p1), (.int p2), (.int p3)] maxLocals)) t := by
       intro t kt
       refine G263 _ ?_
       refine st264 _ ?_
       refine XS.iload X264.here hx rfl (hb hby at_158) rfl ?_
       exact kt
      have hc160_266 : (own_fv [c0, c1, c2]) = (0 : Int32) := by rw [own_fv, if_neg hc115_244, own_fv, if_neg hc129_253, own_fv, if_pos hc143_262]
      obtain ⟨fs, hr, hrun, hended, hRW⟩ := X264.leaveW (s := s) hS (by rw [show T264.heap = T233.heap from eh264]; exact hk) (v := some (.int (1 : Int32))) (fun h => by rw [Bd.returns] at h; cases h) (BodyLoose.notSynchronized Bd)
      refine ⟨_, _, G265 _ ?_, hrun, hended, _, _, rfl, ?_, hRW.1, hRW.2.1, hRW.2.2.1, hRW.2.2.2.mono (by decide) (by decide)⟩
      ·skip
       refine XS.icmpNo X264.here hx rfl (hb hby at_160) rfl (teq hc160_266).2 ?_
       refine XS.iconst X264.here hx rfl (hb hby at_163) ?_
       refine XS.goto X264.here hx rfl (pc0 := 164) (pc' := 168) rfl (hb hby at_164) (by decide) (by decide) ?_
       exact retN X264 hx (t := .boolean) Bd.returns (by simp) (hb hby at_168) hr
      ·show Q0 Z p0 p1 p2 p3 cst fv h0 n0 _ T264.heap _
       rw [eh264]
       exact ⟨rfl, N264⟩
     ·skip
      have G267 : ∀ t, Steps p.tables e below (T260.setTop (mkF m 155 #[iv p0, iv p1, iv p2, iv p3, iv 3, iv c0, iv c1, iv c2, rv b196, rv b224, iv 1] [(.ref b224)])) t → Steps p.tables e below (s₁.setTop (entryFrame m #[(.int p0), (.int p1), (.int p2), (.int p3)] maxLocals)) t := by
       intro t kt
       refine G261 _ ?_
       refine XS.ifNo X260.here hx rfl (hb hby at_143) rfl ((if0 _ _).trans (feq hc143_262).1) ?_
       refine XS.iconst X260.here hx rfl (hb hby at_146) ?_
       refine XS.goto X260.here hx rfl (pc0 := 147) (pc' := 151) rfl (hb hby at_147) (by decide) (by decide) ?_
       refine XS.istore X260.here hx rfl (hb hby at_151) rfl (l' := #[iv p0, iv p1, iv p2, iv p3, iv 3, iv c0, iv c1, iv c2, rv b196, rv b224, iv 1]) rfl ?_
       refine XS.aload X260.here hx rfl (hb hby at_153) rfl rfl ?_
       exact kt
      obtain ⟨_, _, ⟨T268, L268, k268, n268⟩, -, X268, ⟨Lc268, hQ268, l268, y268, z268⟩, st268⟩ := Jvm.LawKit.callS X260 hx (y := (⟨"com/example/wary_bearer/warybearer/http/Http1Reader", "isFieldValue", "(Ljava/lang/String;)Z"⟩ : MethodName)) hown (mvT hZ (hq hw 34 rfl)) (mvT hZ (hq hw 35 rfl)) (mvT hZ (hq hw 36 rfl)) (mvT hZ (hq hw 37 rfl)) (by decide) (backOf (W := 0) (rmFVL3 l Z a0 hw [] b224 c0 c1 c2 ta233 kb233 cst fv T233.heap n0 z238 A233 Fc233 Fv233 V233 fa235 hb0 hb1 hb2 hq233.1 hq233.2.1 hq233.2.2 SS) hZ (hq hw 37 rfl) (hq hw 36 rfl) (by decide) (by decide)) (g := (mkF m 155 #[iv p0, iv p1, iv p2, iv p3, iv 3, iv c0, iv c1, iv c2, rv b196, rv b224, iv 1] [(.ref b224)])) rfl (by rw [hml]; rfl) (argsL := [(.ref b224)]) (rest := []) (lenOf pd_17 rfl) rfl (by show 2 * 0 + _ ≤ _; exact Nat.le_of_eq rfl) (hb hby at_155) (fun _ _ => ⟨rfl, eh260, (by decide : 4 + 0 ≤ _), (by decide : 16 + 0 ≤ _)⟩)
      dsimp only [Pt.U, Pt.locs, Pt.cells, Pt.slots] at X268 l268 y268 z268 st268 hQ268
      subst l268 y268 z268
      obtain ⟨rfl, N268q, eh268⟩ := hQ268
      have N268 := Fr.app N260 N268q
      have G269 : ∀ t, Steps p.tables e below (T268.setTop (mkF m 160 #[iv p0, iv p1, iv p2, iv p3, iv 3, iv c0, iv c1, iv c2, rv b196, rv b224, iv 1] [(.int (1 : Int32)), (.int (own_fv [c0, c1, c2]))])) t → Steps p.tables e below (s₁.setTop (entryFrame m #[(.int p0), (.int p1), (.int p2), (.int p3)] maxLocals)) t := by
       intro t kt
       refine G267 _ ?_
       refine st268 _ ?_
       refine XS.iload X268.here hx rfl (hb hby at_158) rfl ?_
       exact kt
      have hc160_270 : (own_fv [c0, c1, c2]) = (1 : Int32) := by rw [own_fv, if_neg hc115_244, own_fv, if_neg hc129_253, own_fv, if_neg hc143_262, own_fv]
      obtain ⟨fs, hr, hrun, hended, hRW⟩ := X268.leaveW (s := s) hS (by rw [show T268.heap = T233.heap from eh268]; exact hk) (v := some (.int (1 : Int32))) (fun h => by rw [Bd.returns] at h; cases h) (BodyLoose.notSynchronized Bd)
      refine ⟨_, _, G269 _ ?_, hrun, hended, _, _, rfl, ?_, hRW.1, hRW.2.1, hRW.2.2.1, hRW.2.2.2.mono (by decide) (by decide)⟩
      ·skip
       refine XS.icmpNo X268.here hx rfl (hb hby at_160) rfl (teq hc160_270).2 ?_
       refine XS.iconst X268.here hx rfl (hb hby at_163) ?_
       refine XS.goto X268.here hx rfl (pc0 := 164) (pc' := 168) rfl (hb hby at_164) (by decide) (by decide) ?_
       exact retN X268 hx (t := .boolean) Bd.returns (by simp) (hb hby at_168) hr
      ·show Q0 Z p0 p1 p2 p3 cst fv h0 n0 _ T268.heap _
       rw [eh268]
       exact ⟨rfl, N268⟩
  ·skip
   have N233 := Fr.app N217 N233q
   have szk233 : h0.size ≤ ta233 := Nat.le_trans kp229.1 sz233
   have ne_b196_ta233 : b196 ≠ ta233 := Nat.ne_of_lt (Nat.lt_of_lt_of_le fa227.lt sz233)
   have ne_b224_ta233 : b224 ≠ ta233 := Nat.ne_of_lt (Nat.lt_of_lt_of_le A224.lt sz233)
   have ch271 : CHv Z own_EL s.vm T233.heap := ch225.keep K233 (allS sf225_b224 all0)
   have cr271 : CHr Z own_EL s.vm h0 s.vm T233.heap := cr225.trans (CHr.keep K233 (allS sf225_b224 all0) ch225)
   have sf271_b196 : Safe Z own_EL s.vm T233.heap b196 := Safe.keep K233 (allS sf225_b224 all0) ch225 sf225_b196
   have sf271_b224 : Safe Z own_EL s.vm T233.heap b224 := Safe.keep K233 (allS sf225_b224 all0) ch225 sf225_b224
   have fa272 := fa226.keep K233 (allS g_b224 all0)
   have fa273 := fa227.keep K233 (ninS ne_b196_b224 nin0)
   have fa274 := A224.keep K233
   have z275 : n0 ≤ T233.heap.size := Nat.le_trans z228 K233.1
   have hk := Nat.le_trans hk K233.1
   have kp276 : Keep h0 T233.heap [] := kp229.trans K233 (allS (Or.inr sz_b224) all0)
   have G277 : ∀ t, Steps p.tables e below (T233.setTop (mkF m 107 #[iv p0, iv p1, iv p2, iv p3, iv 3, iv c0, iv c1, iv c2, rv b196, rv b224, .unset] [(.int (1 : Int32)), (.int (3 : Int32))])) t → Steps p.tables e below (s₁.setTop (entryFrame m #[(.int p0), (.int p1), (.int p2), (.int p3)] maxLocals)) t := by
    intro t kt
    refine G232 _ ?_
    refine st233.trans ?_
    refine XS.astore X233.here hx rfl (hb hby at_102) rfl rfl (l' := #[iv p0, iv p1, iv p2, iv p3, iv 3, iv c0, iv c1, iv c2, rv b196, rv b224, .unset]) rfl ?_
    refine XS.iload X233.here hx rfl (hb hby at_104) rfl ?_
    show Steps p.tables e below (T233.setTop (mkF m 106 #[iv p0, iv p1, iv p2, iv p3, iv 3, iv c0, iv c1, iv c2, rv b196, rv b224, .unset] [(.int (3 : Int32))])) _
    refine XS.iconst X233.here hx rfl (hb hby at_106) ?_
    exact kt
   have G278 : ∀ t, Steps p.tables e below (T233.setTop (mkF m 112 #[iv p0, iv p1, iv p2, iv p3, iv 3, iv c0, iv c1, iv c2, rv b196, rv b224, .unset] [(.int c0)])) t → Steps p.tables e below (s₁.setTop (entryFrame m #[(.int p0), (.int p1), (.int p2), (.int p3)] maxLocals)) t := by
    intro t kt
    refine G277 _ ?_
    refine XS.icmpNo X233.here hx rfl (hb hby at_107) rfl (flt (by decide)).1 ?_
    refine XS.iload X233.here hx rfl (hb hby at_110) rfl ?_
    exact kt
   obtain ⟨_, _, ⟨T279, L279, k279, n279⟩, -, X279, ⟨Lc279, hQ279, l279, y279, z279⟩, st279⟩ := Jvm.LawKit.callS X233 hx (y := (⟨"com/example/wary_bearer/warybearer/http/Http1ReaderIsFieldValuePinLaw", "allowed", "(C)Z"⟩ : MethodName)) hown (mvT hZ (hq hw 30 rfl)) (mvT hZ (hq hw 31 rfl)) (mvT hZ (hq hw 32 rfl)) (mvT hZ (hq hw 33 rfl)) (by decide) (backOf (W := 0) (rm7 l Z a0 hw [] c0  T233.heap n0 z275 ) hZ (hq hw 33 rfl) (hq hw 32 rfl) (by decide) (by decide)) (g := (mkF m 112 #[iv p0, iv p1, iv p2, iv p3, iv 3, iv c0, iv c1, iv c2, rv b196, rv b224, .unset] [(.int c0)])) rfl (by rw [hml]; rfl) (argsL := [(.int c0)]) (rest := []) (lenOf pd_18 rfl) rfl (by show 2 * 0 + _ ≤ _; exact Nat.le_of_eq rfl) (hb hby at_112) (fun _ _ => ⟨rfl, rfl, (by decide : 4 + 0 ≤ _), (by decide : 16 + 0 ≤ _)⟩)
   dsimp only [Pt.U, Pt.locs, Pt.cells, Pt.slots] at X279 l279 y279 z279 st279 hQ279
   subst l279 y279 z279
   obtain ⟨rfl, N279q, eh279⟩ := hQ279
   have N279 := Fr.app N233 N279q
   have G280 : ∀ t, Steps p.tables e below (T279.setTop (mkF m 115 #[iv p0, iv p1, iv p2, iv p3, iv 3, iv c0, iv c1, iv c2, rv b196, rv b224, .unset] [(.int (fal c0))])) t → Steps p.tables e below (s₁.setTop (entryFrame m #[(.int p0), (.int p1), (.int p2), (.int p3)] maxLocals)) t := by
    intro t kt
    refine G278 _ ?_
    refine st279 _ ?_
    exact kt
   by_cases hc115_281 : (fal c0) = (0 : Int32)
   ·skip
    have G282 : ∀ t, Steps p.tables e below (T279.setTop (mkF m 155 #[iv p0, iv p1, iv p2, iv p3, iv 3, iv c0, iv c1, iv c2, rv b196, rv b224, iv 0] [(.ref b224)])) t → Steps p.tables e below (s₁.setTop (entryFrame m #[(.int p0), (.int p1), (.int p2), (.int p3)] maxLocals)) t := by
     intro t kt
     refine G280 _ ?_
     refine XS.ifYes X279.here hx rfl (pc0 := 115) (pc' := 150) rfl (hb hby at_115) rfl ((if0 _ _).trans (teq hc115_281).1) (by decide) (by decide) ?_
     refine XS.iconst X279.here hx rfl (hb hby at_150) ?_
     refine XS.istore X279.here hx rfl (hb hby at_151) rfl (l' := #[iv p0, iv p1, iv p2, iv p3, iv 3, iv c0, iv c1, iv c2, rv b196, rv b224, iv 0]) rfl ?_
     refine XS.aload X279.here hx rfl (hb hby at_153) rfl rfl ?_
     exact kt
    obtain ⟨_, _, ⟨T283, L283, k283, n283⟩, -, X283, ⟨Lc283, hQ283, l283, y283, z283⟩, st283⟩ := Jvm.LawKit.callS X279 hx (y := (⟨"com/example/wary_bearer/warybearer/http/Http1Reader", "isFieldValue", "(Ljava/lang/String;)Z"⟩ : MethodName)) hown (mvT hZ (hq hw 34 rfl)) (mvT hZ (hq hw 35 rfl)) (mvT hZ (hq hw 36 rfl)) (mvT hZ (hq hw 37 rfl)) (by decide) (backOf (W := 0) (rmFVU3 l Z a0 hw [] b224 c0 c1 c2 ta233 kb233 cst fv T233.heap n0 z275 A233 Fc233 Fv233 V233 fa272 hb0 hb1 hb2 SS) hZ (hq hw 37 rfl) (hq hw 36 rfl) (by decide) (by decide)) (g := (mkF m 155 #[iv p0, iv p1, iv p2, iv p3, iv 3, iv c0, iv c1, iv c2, rv b196, rv b224, iv 0] [(.ref b224)])) rfl (by rw [hml]; rfl) (argsL := [(.ref b224)]) (rest := []) (lenOf pd_17 rfl) rfl (by show 2 * 0 + _ ≤ _; exact Nat.le_of_eq rfl) (hb hby at_155) (fun _ _ => ⟨rfl, eh279, (by decide : 4 + 0 ≤ _), (by decide : 16 + 0 ≤ _)⟩)
    dsimp only [Pt.U, Pt.locs, Pt.cells, Pt.slots] at X283 l283 y283 z283 st283 hQ283
    subst l283 y283 z283
    obtain ⟨rfl, N283q, eh283⟩ := hQ283
    have N283 := Fr.app N279 N283q
    have G284 : ∀ t, Steps p.tables e below (T283.setTop (mkF m 160 #[iv p0, iv p1, iv p2, iv p3, iv 3, iv c0, iv c1, iv c2, rv b196, rv b224, iv 0] [(.int (0 : Int32)), (.int (own_fv [c0, c1, c2]))])) t → Steps p.tables e below (s₁.setTop (entryFrame m #[(.int p0), (.int p1), (.int p2), (.int p3)] maxLocals)) t := by
     intro t kt
     refine G282 _ ?_
     refine st283 _ ?_
     refine XS.iload X283.here hx rfl (hb hby at_158) rfl ?_
     exact kt
    have hc160_285 : (own_fv [c0, c1, c2]) = (0 : Int32) := by rw [own_fv, if_pos hc115_281]
    obtain ⟨fs, hr, hrun, hended, hRW⟩ := X283.leaveW (s := s) hS (by rw [show T283.heap = T233.heap from eh283]; exact hk) (v := some (.int (1 : Int32))) (fun h => by rw [Bd.returns] at h; cases h) (BodyLoose.notSynchronized Bd)
    refine ⟨_, _, G284 _ ?_, hrun, hended, _, _, rfl, ?_, hRW.1, hRW.2.1, hRW.2.2.1, hRW.2.2.2.mono (by decide) (by decide)⟩
    ·skip
     refine XS.icmpNo X283.here hx rfl (hb hby at_160) rfl (teq hc160_285).2 ?_
     refine XS.iconst X283.here hx rfl (hb hby at_163) ?_
     refine XS.goto X283.here hx rfl (pc0 := 164) (pc' := 168) rfl (hb hby at_164) (by decide) (by decide) ?_
     exact retN X283 hx (t := .boolean) Bd.returns (by simp) (hb hby at_168) hr
    ·show Q0 Z p0 p1 p2 p3 cst fv h0 n0 _ T283.heap _
     rw [eh283]
     exact ⟨rfl, N283⟩
   ·skip
    have G286 : ∀ t, Steps p.tables e below (T279.setTop (mkF m 121 #[iv p0, iv p1, iv p2, iv p3, iv 3, iv c0, iv c1, iv c2, rv b196, rv b224, .unset] [(.int (2 : Int32)), (.int (3 : Int32))])) t → Steps p.tables e below (s₁.setTop (entryFrame m #[(.int p0), (.int p1), (.int p2), (.int p3)] maxLocals)) t := by
     intro t kt
     refine G280 _ ?_
     refine XS.ifNo X279.here hx rfl (hb hby at_115) rfl ((if0 _ _).trans (feq hc115_281).1) ?_
     refine XS.iload X279.here hx rfl (hb hby at_118) rfl ?_
     refine XS.iconst X279.here hx rfl (hb hby at_120) ?_
     exact kt
    have G287 : ∀ t, Steps p.tables e below (T279.setTop (mkF m 126 #[iv p0, iv p1, iv p2, iv p3, iv 3, iv c0, iv c1, iv c2, rv b196, rv b224, .unset] [(.int c1)])) t → Steps p.tables e below (s₁.setTop (entryFrame m #[(.int p0), (.int p1), (.int p2), (.int p3)] maxLocals)) t := by
     intro t kt
     refine G286 _ ?_
     refine XS.icmpNo X279.here hx rfl (hb hby at_121) rfl (flt (by decide)).1 ?_
     refine XS.iload X279.here hx rfl (hb hby at_124) rfl ?_
     exact kt
    obtain ⟨_, _, ⟨T288, L288, k288, n288⟩, -, X288, ⟨Lc288, hQ288, l288, y288, z288⟩, st288⟩ := Jvm.LawKit.callS X279 hx (y := (⟨"com/example/wary_bearer/warybearer/http/Http1ReaderIsFieldValuePinLaw", "allowed", "(C)Z"⟩ : MethodName)) hown (mvT hZ (hq hw 30 rfl)) (mvT hZ (hq hw 31 rfl)) (mvT hZ (hq hw 32 rfl)) (mvT hZ (hq hw 33 rfl)) (by decide) (backOf (W := 0) (rm7 l Z a0 hw [] c1  T233.heap n0 z275 ) hZ (hq hw 33 rfl) (hq hw 32 rfl) (by decide) (by decide)) (g := (mkF m 126 #[iv p0, iv p1, iv p2, iv p3, iv 3, iv c0, iv c1, iv c2, rv b196, rv b224, .unset] [(.int c1)])) rfl (by rw [hml]; rfl) (argsL := [(.int c1)]) (rest := []) (lenOf pd_18 rfl) rfl (by show 2 * 0 + _ ≤ _; exact Nat.le_of_eq rfl) (hb hby at_126) (fun _ _ => ⟨rfl, eh279, (by decide : 4 + 0 ≤ _), (by decide : 16 + 0 ≤ _)⟩)
    dsimp only [Pt.U, Pt.locs, Pt.cells, Pt.slots] at X288 l288 y288 z288 st288 hQ288
    subst l288 y288 z288
    obtain ⟨rfl, N288q, eh288⟩ := hQ288
    have N288 := Fr.app N279 N288q
    have G289 : ∀ t, Steps p.tables e below (T288.setTop (mkF m 129 #[iv p0, iv p1, iv p2, iv p3, iv 3, iv c0, iv c1, iv c2, rv b196, rv b224, .unset] [(.int (fal c1))])) t → Steps p.tables e below (s₁.setTop (entryFrame m #[(.int p0), (.int p1), (.int p2), (.int p3)] maxLocals)) t := by
     intro t kt
     refine G287 _ ?_
     refine st288 _ ?_
     exact kt
    by_cases hc129_290 : (fal c1) = (0 : Int32)
    ·skip
     have G291 : ∀ t, Steps p.tables e below (T288.setTop (mkF m 155 #[iv p0, iv p1, iv p2, iv p3, iv 3, iv c0, iv c1, iv c2, rv b196, rv b224, iv 0] [(.ref b224)])) t → Steps p.tables e below (s₁.setTop (entryFrame m #[(.int p0), (.int p1), (.int p2), (.int p3)] maxLocals)) t := by
      intro t kt
      refine G289 _ ?_
      refine XS.ifYes X288.here hx rfl (pc0 := 129) (pc' := 150) rfl (hb hby at_129) rfl ((if0 _ _).trans (teq hc129_290).1) (by decide) (by decide) ?_
      refine XS.iconst X288.here hx rfl (hb hby at_150) ?_
      refine XS.istore X288.here hx rfl (hb hby at_151) rfl (l' := #[iv p0, iv p1, iv p2, iv p3, iv 3, iv c0, iv c1, iv c2, rv b196, rv b224, iv 0]) rfl ?_
      refine XS.aload X288.here hx rfl (hb hby at_153) rfl rfl ?_
      exact kt
     obtain ⟨_, _, ⟨T292, L292, k292, n292⟩, -, X292, ⟨Lc292, hQ292, l292, y292, z292⟩, st292⟩ := Jvm.LawKit.callS X288 hx (y := (⟨"com/example/wary_bearer/warybearer/http/Http1Reader", "isFieldValue", "(Ljava/lang/String;)Z"⟩ : MethodName)) hown (mvT hZ (hq hw 34 rfl)) (mvT hZ (hq hw 35 rfl)) (mvT hZ (hq hw 36 rfl)) (mvT hZ (hq hw 37 rfl)) (by decide) (backOf (W := 0) (rmFVU3 l Z a0 hw [] b224 c0 c1 c2 ta233 kb233 cst fv T233.heap n0 z275 A233 Fc233 Fv233 V233 fa272 hb0 hb1 hb2 SS) hZ (hq hw 37 rfl) (hq hw 36 rfl) (by decide) (by decide)) (g := (mkF m 155 #[iv p0, iv p1, iv p2, iv p3, iv 3, iv c0, iv c1, iv c2, rv b196, rv b224, iv 0] [(.ref b224)])) rfl (by rw [hml]; rfl) (argsL := [(.ref b224)]) (rest := []) (lenOf pd_17 rfl) rfl (by show 2 * 0 + _ ≤ _; exact Nat.le_of_eq rfl) (hb hby at_155) (fun _ _ => ⟨rfl, eh288, (by decide : 4 + 0 ≤ _), (by decide : 16 + 0 ≤ _)⟩)
     dsimp only [Pt.U, Pt.locs, Pt.cells, Pt.slots] at X292 l292 y292 z292 st292 hQ292
     subst l292 y292 z292
     obtain ⟨rfl, N292q, eh292⟩ := hQ292
     have N292 := Fr.app N288 N292q
     have G293 : ∀ t, Steps p.tables e below (T292.setTop (mkF m 160 #[iv p0, iv p1, iv p2, iv p3, iv 3, iv c0, iv c1, iv c2, rv b196, rv b224, iv 0] [(.int (0 : Int32)), (.int (own_fv [c0, c1, c2]))])) t → Steps p.tables e below (s₁.setTop (entryFrame m #[(.int p0), (.int p1), (.int p2), (.int p3)] maxLocals)) t := by
      intro t kt
      refine G291 _ ?_
      refine st292 _ ?_
      refine XS.iload X292.here hx rfl (hb hby at_158) rfl ?_
      exact kt
     have hc160_294 : (own_fv [c0, c1, c2]) = (0 : Int32) := by rw [own_fv, if_neg hc115_281, own_fv, if_pos hc129_290]
     obtain ⟨fs, hr, hrun, hended, hRW⟩ := X292.leaveW (s := s) hS (by rw [show T292.heap = T233.heap from eh292]; exact hk) (v := some (.int (1 : Int32))) (fun h => by rw [Bd.returns] at h; cases h) (BodyLoose.notSynchronized Bd)
     refine ⟨_, _, G293 _ ?_, hrun, hended, _, _, rfl, ?_, hRW.1, hRW.2.1, hRW.2.2.1, hRW.2.2.2.mono (by decide) (by decide)⟩
     ·skip
      refine XS.icmpNo X292.here hx rfl (hb hby at_160) rfl (teq hc160_294).2 ?_
      refine XS.iconst X292.here hx rfl (hb hby at_163) ?_
      refine XS.goto X292.here hx rfl (pc0 := 164) (pc' := 168) rfl (hb hby at_164) (by decide) (by decide) ?_
      exact retN X292 hx (t := .boolean) Bd.returns (by simp) (hb hby at_168) hr
     ·show Q0 Z p0 p1 p2 p3 cst fv h0 n0 _ T292.heap _
      rw [eh292]
      exact ⟨rfl, N292⟩
    ·skip
     have G295 : ∀ t, Steps p.tables e below (T288.setTop (mkF m 135 #[iv p0, iv p1, iv p2, iv p3, iv 3, iv c0, iv c1, iv c2, rv b196, rv b224, .unset] [(.int (3 : Int32)), (.int (3 : Int32))])) t → Steps p.tables e below (s₁.setTop (entryFrame m #[(.int p0), (.int p1), (.int p2), (.int p3)] maxLocals)) t := by
      intro t kt
      refine G289 _ ?_
      refine XS.ifNo X288.here hx rfl (hb hby at_129) rfl ((if0 _ _).trans (feq hc129_290).1) ?_
      refine XS.iload X288.here hx rfl (hb hby at_132) rfl ?_
      refine XS.iconst X288.here hx rfl (hb hby at_134) ?_
      exact kt
     have G296 : ∀ t, Steps p.tables e below (T288.setTop (mkF m 140 #[iv p0, iv p1, iv p2, iv p3, iv 3, iv c0, iv c1, iv c2, rv b196, rv b224, .unset] [(.int c2)])) t → Steps p.tables e below (s₁.setTop (entryFrame m #[(.int p0), (.int p1), (.int p2), (.int p3)] maxLocals)) t := by
      intro t kt
      refine G295 _ ?_
      refine XS.icmpNo X288.here hx rfl (hb hby at_135) rfl (flt (by decide)).1 ?_
      refine XS.iload X288.here hx rfl (hb hby at_138) rfl ?_
      exact kt
     obtain ⟨_, _, ⟨T297, L297, k297, n297⟩, -, X297, ⟨Lc297, hQ297, l297, y297, z297⟩, st297⟩ := Jvm.LawKit.callS X288 hx (y := (⟨"com/example/wary_bearer/warybearer/http/Http1ReaderIsFieldValuePinLaw", "allowed", "(C)Z"⟩ : MethodName)) hown (mvT hZ (hq hw 30 rfl)) (mvT hZ (hq hw 31 rfl)) (mvT hZ (hq hw 32 rfl)) (mvT hZ (hq hw 33 rfl)) (by decide) (backOf (W := 0) (rm7 l Z a0 hw [] c2  T233.heap n0 z275 ) hZ (hq hw 33 rfl) (hq hw 32 rfl) (by decide) (by decide)) (g := (mkF m 140 #[iv p0, iv p1, iv p2, iv p3, iv 3, iv c0, iv c1, iv c2, rv b196, rv b224, .unset] [(.int c2)])) rfl (by rw [hml]; rfl) (argsL := [(.int c2)]) (rest := []) (lenOf pd_18 rfl) rfl (by show 2 * 0 + _ ≤ _; exact Nat.le_of_eq rfl) (hb hby at_140) (fun _ _ => ⟨rfl, eh288, (by decide : 4 + 0 ≤ _), (by decide : 16 + 0 ≤ _)⟩)
     dsimp only [Pt.U, Pt.locs, Pt.cells, Pt.slots] at X297 l297 y297 z297 st297 hQ297
     subst l297 y297 z297
     obtain ⟨rfl, N297q, eh297⟩ := hQ297
     have N297 := Fr.app N288 N297q
     have G298 : ∀ t, Steps p.tables e below (T297.setTop (mkF m 143 #[iv p0, iv p1, iv p2, iv p3, iv 3, iv c0, iv c1, iv c2, rv b196, rv b224, .unset] [(.int (fal c2))])) t → Steps p.tables e below (s₁.setTop (entryFrame m #[(.int p0), (.int p1), (.int p2), (.int p3)] maxLocals)) t := by
      intro t kt
      refine G296 _ ?_
      refine st297 _ ?_
      exact kt
     by_cases hc143_299 : (fal c2) = (0 : Int32)
     ·skip
      have G300 : ∀ t, Steps p.tables e below (T297.setTop (mkF m 155 #[iv p0, iv p1, iv p2, iv p3, iv 3, iv c0, iv c1, iv c2, rv b196, rv b224, iv 0] [(.ref b224)])) t → Steps p.tables e below (s₁.setTop (entryFrame m #[(.int p0), (.int p1), (.int p2), (.int p3)] maxLocals)) t := by
       intro t kt
       refine G298 _ ?_
       refine XS.ifYes X297.here hx rfl (pc0 := 143) (pc' := 150) rfl (hb hby at_143) rfl ((if0 _ _).trans (teq hc143_299).1) (by decide) (by decide) ?_
       refine XS.iconst X297.here hx rfl (hb hby at_150) ?_
       refine XS.istore X297.here hx rfl (hb hby at_151) rfl (l' := #[iv p0, iv p1, iv p2, iv p3, iv 3, iv c0, iv c1, iv c2, rv b196, rv b224, iv 0]) rfl ?_
       refine XS.aload X297.here hx rfl (hb hby at_153) rfl rfl ?_
       exact kt
      obtain ⟨_, _, ⟨T301, L301, k301, n301⟩, -, X301, ⟨Lc301, hQ301, l301, y301, z301⟩, st301⟩ := Jvm.LawKit.callS X297 hx (y := (⟨"com/example/wary_bearer/warybearer/http/Http1Reader", "isFieldValue", "(Ljava/lang/String;)Z"⟩ : MethodName)) hown (mvT hZ (hq hw 34 rfl)) (mvT hZ (hq hw 35 rfl)) (mvT hZ (hq hw 36 rfl)) (mvT hZ (hq hw 37 rfl)) (by decide) (backOf (W := 0) (rmFVU3 l Z a0 hw [] b224 c0 c1 c2 ta233 kb233 cst fv T233.heap n0 z275 A233 Fc233 Fv233 V233 fa272 hb0 hb1 hb2 SS) hZ (hq hw 37 rfl) (hq hw 36 rfl) (by decide) (by decide)) (g := (mkF m 155 #[iv p0, iv p1, iv p2, iv p3, iv 3, iv c0, iv c1, iv c2, rv b196, rv b224, iv 0] [(.ref b224)])) rfl (by rw [hml]; rfl) (argsL := [(.ref b224)]) (rest := []) (lenOf pd_17 rfl) rfl (by show 2 * 0 + _ ≤ _; exact Nat.le_of_eq rfl) (hb hby at_155) (fun _ _ => ⟨rfl, eh297, (by decide : 4 + 0 ≤ _), (by decide : 16 + 0 ≤ _)⟩)
      dsimp only [Pt.U, Pt.locs, Pt.cells, Pt.slots] at X301 l301 y301 z301 st301 hQ301
      subst l301 y301 z301
      obtain ⟨rfl, N301q, eh301⟩ := hQ301
      have N301 := Fr.app N297 N301q
      have G302 : ∀ t, Steps p.tables e below (T301.setTop (mkF m 160 #[iv p0, iv p1, iv p2, iv p3, iv 3, iv c0, iv c1, iv c2, rv b196, rv b224, iv 0] [(.int (0 : Int32)), (.int (own_fv [c0, c1, c2]))])) t → Steps p.tables e below (s₁.setTop (entryFrame m #[(.int p0), (.int p1), (.int p2), (.int p3)] maxLocals)) t := by
       intro t kt
       refine G300 _ ?_
       refine st301 _ ?_
       refine XS.iload X301.here hx rfl (hb hby at_158) rfl ?_
       exact kt
      have hc160_303 : (own_fv [c0, c1, c2]) = (0 : Int32) := by rw [own_fv, if_neg hc115_281, own_fv, if_neg hc129_290, own_fv, if_pos hc143_299]
      obtain ⟨fs, hr, hrun, hended, hRW⟩ := X301.leaveW (s := s) hS (by rw [show T301.heap = T233.heap from eh301]; exact hk) (v := some (.int (1 : Int32))) (fun h => by rw [Bd.returns] at h; cases h) (BodyLoose.notSynchronized Bd)
      refine ⟨_, _, G302 _ ?_, hrun, hended, _, _, rfl, ?_, hRW.1, hRW.2.1, hRW.2.2.1, hRW.2.2.2.mono (by decide) (by decide)⟩
      ·skip
       refine XS.icmpNo X301.here hx rfl (hb hby at_160) rfl (teq hc160_303).2 ?_
       refine XS.iconst X301.here hx rfl (hb hby at_163) ?_
       refine XS.goto X301.here hx rfl (pc0 := 164) (pc' := 168) rfl (hb hby at_164) (by decide) (by decide) ?_
       exact retN X301 hx (t := .boolean) Bd.returns (by simp) (hb hby at_168) hr
      ·show Q0 Z p0 p1 p2 p3 cst fv h0 n0 _ T301.heap _
       rw [eh301]
       exact ⟨rfl, N301⟩
     ·skip
      have G304 : ∀ t, Steps p.tables e below (T297.setTop (mkF m 155 #[iv p0, iv p1, iv p2, iv p3, iv 3, iv c0, iv c1, iv c2, rv b196, rv b224, iv 1] [(.ref b224)])) t → Steps p.tables e below (s₁.setTop (entryFrame m #[(.int p0), (.int p1), (.int p2), (.int p3)] maxLocals)) t := by
       intro t kt
       refine G298 _ ?_
       refine XS.ifNo X297.here hx rfl (hb hby at_143) rfl ((if0 _ _).trans (feq hc143_299).1) ?_
       refine XS.iconst X297.here hx rfl (hb hby at_146) ?_
       refine XS.goto X297.here hx rfl (pc0 := 147) (pc' := 151) rfl (hb hby at_147) (by decide) (by decide) ?_
       refine XS.istore X297.here hx rfl (hb hby at_151) rfl (l' := #[iv p0, iv p1, iv p2, iv p3, iv 3, iv c0, iv c1, iv c2, rv b196, rv b224, iv 1]) rfl ?_
       refine XS.aload X297.here hx rfl (hb hby at_153) rfl rfl ?_
       exact kt
      obtain ⟨_, _, ⟨T305, L305, k305, n305⟩, -, X305, ⟨Lc305, hQ305, l305, y305, z305⟩, st305⟩ := Jvm.LawKit.callS X297 hx (y := (⟨"com/example/wary_bearer/warybearer/http/Http1Reader", "isFieldValue", "(Ljava/lang/String;)Z"⟩ : MethodName)) hown (mvT hZ (hq hw 34 rfl)) (mvT hZ (hq hw 35 rfl)) (mvT hZ (hq hw 36 rfl)) (mvT hZ (hq hw 37 rfl)) (by decide) (backOf (W := 0) (rmFVU3 l Z a0 hw [] b224 c0 c1 c2 ta233 kb233 cst fv T233.heap n0 z275 A233 Fc233 Fv233 V233 fa272 hb0 hb1 hb2 SS) hZ (hq hw 37 rfl) (hq hw 36 rfl) (by decide) (by decide)) (g := (mkF m 155 #[iv p0, iv p1, iv p2, iv p3, iv 3, iv c0, iv c1, iv c2, rv b196, rv b224, iv 1] [(.ref b224)])) rfl (by rw [hml]; rfl) (argsL := [(.ref b224)]) (rest := []) (lenOf pd_17 rfl) rfl (by show 2 * 0 + _ ≤ _; exact Nat.le_of_eq rfl) (hb hby at_155) (fun _ _ => ⟨rfl, eh297, (by decide : 4 + 0 ≤ _), (by decide : 16 + 0 ≤ _)⟩)
      dsimp only [Pt.U, Pt.locs, Pt.cells, Pt.slots] at X305 l305 y305 z305 st305 hQ305
      subst l305 y305 z305
      obtain ⟨rfl, N305q, eh305⟩ := hQ305
      have N305 := Fr.app N297 N305q
      have G306 : ∀ t, Steps p.tables e below (T305.setTop (mkF m 160 #[iv p0, iv p1, iv p2, iv p3, iv 3, iv c0, iv c1, iv c2, rv b196, rv b224, iv 1] [(.int (1 : Int32)), (.int (own_fv [c0, c1, c2]))])) t → Steps p.tables e below (s₁.setTop (entryFrame m #[(.int p0), (.int p1), (.int p2), (.int p3)] maxLocals)) t := by
       intro t kt
       refine G304 _ ?_
       refine st305 _ ?_
       refine XS.iload X305.here hx rfl (hb hby at_158) rfl ?_
       exact kt
      have hc160_307 : (own_fv [c0, c1, c2]) = (1 : Int32) := by rw [own_fv, if_neg hc115_281, own_fv, if_neg hc129_290, own_fv, if_neg hc143_299, own_fv]
      obtain ⟨fs, hr, hrun, hended, hRW⟩ := X305.leaveW (s := s) hS (by rw [show T305.heap = T233.heap from eh305]; exact hk) (v := some (.int (1 : Int32))) (fun h => by rw [Bd.returns] at h; cases h) (BodyLoose.notSynchronized Bd)
      refine ⟨_, _, G306 _ ?_, hrun, hended, _, _, rfl, ?_, hRW.1, hRW.2.1, hRW.2.2.1, hRW.2.2.2.mono (by decide) (by decide)⟩
      ·skip
       refine XS.icmpNo X305.here hx rfl (hb hby at_160) rfl (teq hc160_307).2 ?_
       refine XS.iconst X305.here hx rfl (hb hby at_163) ?_
       refine XS.goto X305.here hx rfl (pc0 := 164) (pc' := 168) rfl (hb hby at_164) (by decide) (by decide) ?_
       exact retN X305 hx (t := .boolean) Bd.returns (by simp) (hb hby at_168) hr
      ·show Q0 Z p0 p1 p2 p3 cst fv h0 n0 _ T305.heap _
       rw [eh305]
       exact ⟨rfl, N305⟩
theorem own_eqI {args : Array Value} {s : State} {t : Term} {k : Int32} {idx : List Nat} (h : (Jvm.Cond.eq t (Jvm.Term.int k)).value args s none s idx = some true) : t.eval args s none idx s = some (.int k) := by
  simp only [Cond.value, Term.eval] at h
  cases ht : t.eval args s none idx s with
  | none => simp [ht] at h
  | some x => cases x <;> simp [ht] at h ⊢; exact h
set_option maxRecDepth 65536 in
set_option maxHeartbeats 40000000 in
theorem comes_1 {Post : Tables → Env → Array Value → State → Outcome → State → Prop} (hpost : ∀ tb e args s v u, (limb_1_1.after args s (.returned v) u = true ∧ limb_1_2.after args s (.returned v) u = true ∧ True) → ReturnedEndW s (.returned v) u (Jvm.fieldLocs frame_1_writes args s ++ Jvm.arrayLocs frame_1_arrays args s ++ Jvm.staticLocs frame_1_statics s) 24 1152 → Post tb e args s (.returned v) u) :
    ArmFor flags0 classFile x code maxLocals ret World_1 tables_1 room_1 Calls_1 rest_1 Pre_1 Post := by
  intro l hfl _ _ p e ha hc hk s m args below hf hA hF happ hP
  obtain ⟨hcalls, hrest, hpre⟩ := hP
  obtain ⟨-, -, -, hnamed, -, -, -, hat⟩ := (Spec.applies_iff hf).mp happ
  obtain ⟨hg, hn⟩ := and_e (Cond.before_iff.mp (show (Jvm.Cond.and given_1 narrow_1).before args s = true from hpre))
  obtain ⟨g1, g2⟩ := and_e hg
  obtain ⟨g3, g4⟩ := and_e g2
  obtain ⟨g5, g6⟩ := and_e g4
  obtain ⟨g7, g8⟩ := and_e g6
  obtain ⟨w0, w1, w2, w3, rfl⟩ : ∃ w0 w1 w2 w3 : Value, args = #[w0, w1, w2, w3] := by
    have hs : args.size = 4 := by simpa [Cond.value, given_1] using g1
    obtain ⟨L⟩ := args
    match L, hs with
    | [w0, w1, w2, w3], _ => exact ⟨w0, w1, w2, w3, rfl⟩
  have hw := fun d (hd : d ∈ tables_1) => atoms_spec (ws := Jvm.Cond.code x code maxLocals ret :: tables_1) hat d (List.mem_cons_of_mem _ hd)
  have hfit : Fit s := fun {y c} hc i hi => by
    obtain ⟨ha, rfl⟩ := Array.getElem?_eq_some_iff.mp hc
    have q := List.all_eq_true.mp ((Array.all_eq_true_iff_forall_mem.mp hF) _ (Array.getElem_mem ha)) i (List.mem_range.mpr hi)
    simpa [Array.getElem?_eq_getElem hi] using q
  obtain ⟨hsets, hown0⟩ := atoms_of _ (rest_1_c_eq ▸ (show rest_1_c.before _ s = true from hrest))
  have hr0 := Cond.before_iff.mp hown0
  obtain ⟨i0, ei0⟩ := is_v g3
  obtain rfl : w0 = (.int i0) := Option.some.inj ei0
  obtain ⟨i1, ei1⟩ := is_v g5
  obtain rfl : w1 = (.int i1) := Option.some.inj ei1
  obtain ⟨i2, ei2⟩ := is_v g7
  obtain rfl : w2 = (.int i2) := Option.some.inj ei2
  obtain ⟨i3, ei3⟩ := is_v g8
  obtain rfl : w3 = (.int i3) := Option.some.inj ei3
  obtain ⟨cst, evc⟩ := is_v (Cond.before_iff.mp (hsets _ (List.mem_of_getElem? (i := 1) rfl)))
  have SC := Sta.start evc (Or.inl (hsets _ (List.mem_of_getElem? (i := 0) rfl)))
  have hcst : ¬ (cst = (0 : Int32)) := fun q => by
    have z := not_v (Cond.before_iff.mp (hsets _ (List.mem_of_getElem? (i := 2) rfl)))
    rw [Cond.eq_ints evc (Term.int_eval _), decide_eq_true q] at z
    cases z
  obtain ⟨fv, evf, hfv⟩ := isR_v (Cond.before_iff.mp (hsets _ (List.mem_of_getElem? (i := 8) rfl)))
  have SF := Sta.start evf (Or.inl (hsets _ (List.mem_of_getElem? (i := 7) rfl)))
  have S1 := Sta.start (own_eqI (Cond.before_iff.mp (hsets _ (List.mem_of_getElem? (i := 12) rfl)))) (Or.inl (hsets _ (List.mem_of_getElem? (i := 11) rfl)))
  have S2 := Sta.start (own_eqI (Cond.before_iff.mp (hsets _ (List.mem_of_getElem? (i := 15) rfl)))) (Or.inl (hsets _ (List.mem_of_getElem? (i := 14) rfl)))
  have S3 := Sta.start (own_eqI (Cond.before_iff.mp (hsets _ (List.mem_of_getElem? (i := 18) rfl)))) (Or.inl (hsets _ (List.mem_of_getElem? (i := 17) rfl)))
  have SS : Sts s cst fv := ⟨SC, hcst, S1, S2, S3, SF, hfv⟩
  have O0 := Old.start s
  have CHS : CHv s own_EL s.vm s.heap := CHv.start (own_ew hw) (fun q hq => hcalls.1 q hq) (hsets _ (List.mem_of_getElem? (i := 2) rfl)) (hq hw 19 rfl) (hq hw 2 rfl)
  obtain ⟨n, o, h1, h2, h3, _, L, rfl, ⟨rfl, N⟩, hq⟩ := rm0 l s _ hw tables_1 i0 i1 i2 i3 cst fv s.heap s.heap.size (Nat.le_refl _) O0 SS p e ha hc hk s m _ below hf ((Spec.applies_iff_loose hf).mp happ).1 ⟨rfl, State.Warmed39.refl s, rfl, CHS⟩ trivial
  refine ⟨n, _, h1, h2, h3, hpost _ _ _ _ _ _ ⟨Cond.after_iff.mpr rfl, Cond.after_iff.mpr (eq_i res_at (Term.int_eval (1)) rfl), trivial⟩ ⟨hq.1, hq.2.1, hq.2.2.1, (hq.2.2.2.sift fun y hy => Or.inr (N y hy)).mono (by decide) (by decide)⟩⟩
theorem main_1_1 : Claimed_1_1 := comes_1 fun _ _ _ _ _ _ h hF => ⟨h.1, hF⟩
theorem main_1_2 : Claimed_1_2 := comes_1 fun _ _ _ _ _ _ h hF => ⟨h.2.1, hF⟩
end Jvm.Pilot.@@N@@
namespace Jvm.Pilot.@@N@@
open Jvm Jvm.ClassFile Sem Op Lib Jvm.Free Jvm.Stand Jvm.Pilot.@@N@@.Jvm.D
/-! MADE BY PROGRAM (witnessworld.py) out of the Statement's table words and the real class files: 20 classes; the members and pool entries that the words name. The judged class is class 1, her method 2. -/
namespace start1
open Jvm.ClassFile
def u (s : String) : CpInfo := .utf8 (stringToUtf16 s)
/-- a pool by its gaps: so many unusable entries, then the entry; so many at the end -/
def gap : Nat → List CpInfo → List CpInfo
  | 0, r => r
  | n + 1, r => .unusable :: gap n r
def poolList (es : List (Nat × CpInfo)) (last : Nat) : List CpInfo := es.foldr (fun e r => gap e.1 (e.2 :: r)) (gap last [])
def pool (es : List (Nat × CpInfo)) (last : Nat) : Array CpInfo := ⟨poolList es last⟩
def fileOf (pool : Array CpInfo) (this : Nat) (attrs : Array Attribute := #[]) (ms : Array MethodInfo := #[]) (fl : Nat := 33) (sup : Nat := 0) (ifs : Array Nat := #[]) (fds : Array FieldInfo := #[]) : ClassFile where
  minorVersion := 0
  majorVersion := 65
  constantPool := pool
  accessFlags := fl
  thisClass := this
  superClass := sup
  interfaces := ifs
  fields := fds
  methods := ms
  attributes := attrs
def plain (name : String) (sup : Option ClassId) : Class where
  name := name
  kind := .ordinary
  loader := none
  accessFlags := 33
  super := sup
  interfaces := #[]
  cf := none
  fields := #[]
  methods := #[]
  instanceTypes := #[]
  staticTypes := #[]
  resolved := #[]
  callSites := []
  init := .initialized
  statics := none
  mirror := none

def pool0 : Array CpInfo := pool [(5, u "<init>"), (0, u "()V"), (1, .class_ 10), (1, u "java/lang/Object")] 113

def k0c0 : Code := { maxStack := 0, maxLocals := 1, code := object_method_1_code, exceptionTable := #[], attributes := #[] }
def k0m0 : Method := { name := "<init>", desc := "()V", sig := { parameters := [], returnType := none }, accessFlags := 1, code := some k0c0 }
/-- java/lang/Object -/
def k0 : Class := { plain "java/lang/Object" none with
  accessFlags := 33
  interfaces := #[]
  cf := some (fileOf pool0 8 #[] #[{ accessFlags := 1, nameIndex := 5, descriptorIndex := 6, attributes := #[] }] 33 0 #[] #[])
  fields := #[]
  methods := #[k0m0]
  instanceTypes := #[]
  staticTypes := #[]
  resolved := Array.replicate 124 none
  statics := none }

def pool1 : Array CpInfo := pool [(2, .class_ 4), (1, u "java/lang/Object"), (0, u "<init>"), (0, u "()V"), (0, .class_ 8), (0, u "java/lang/String"), (0, .methodref 7 10), (0, .nameAndType 5 11), (0, u "([C)V"), (0, .methodref 13 14), (0, .class_ 15), (0, .nameAndType 16 17), (0, u "com/example/wary_bearer/warybearer/http/Http1ReaderIsFieldValuePinLaw"), (0, u "allowed"), (0, u "(C)Z"), (0, .methodref 19 20), (0, .class_ 21), (0, .nameAndType 22 23), (0, u "com/example/wary_bearer/warybearer/http/Http1Reader"), (0, u "isFieldValue"), (0, u "(Ljava/lang/String;)Z"), (3, u "law"), (0, u "(IIII)Z")] 4

def k1m0 : Method := { name := "<init>", desc := "()V", sig := { parameters := [], returnType := none }, accessFlags := 1, code := none }
def k1c1 : Code := { maxStack := 2, maxLocals := 1, code := method_2_code, exceptionTable := #[], attributes := #[] }
def k1m1 : Method := { name := "allowed", desc := "(C)Z", sig := { parameters := [.char], returnType := some .boolean }, accessFlags := 10, code := some k1c1 }
def k1c2 : Code := { maxStack := 4, maxLocals := 11, code := code, exceptionTable := #[], attributes := #[] }
def k1m2 : Method := { name := "law", desc := "(IIII)Z", sig := { parameters := [.int, .int, .int, .int], returnType := some .boolean }, accessFlags := 9, code := some k1c2 }
/-- com/example/wary_bearer/warybearer/http/Http1ReaderIsFieldValuePinLaw -/
def k1 : Class := { plain "com/example/wary_bearer/warybearer/http/Http1ReaderIsFieldValuePinLaw" (some 0) with
  accessFlags := 49
  interfaces := #[]
  cf := some (fileOf pool1 13 #[] #[{ accessFlags := 1, nameIndex := 5, descriptorIndex := 6, attributes := #[] }, { accessFlags := 10, nameIndex := 16, descriptorIndex := 17, attributes := #[] }, { accessFlags := 9, nameIndex := 27, descriptorIndex := 28, attributes := #[] }] 49 2 #[] #[])
  fields := #[]
  methods := #[k1m0, k1m1, k1m2]
  instanceTypes := #[]
  staticTypes := #[]
  resolved := Array.replicate 33 none
  statics := none }

def pool2 : Array CpInfo := pool [(1, .class_ 2), (0, u "java/io/Serializable"), (0, .class_ 4), (0, u "java/lang/Object")] 2

/-- java/io/Serializable -/
def k2 : Class := { plain "java/io/Serializable" (some 0) with
  accessFlags := 1537
  interfaces := #[]
  cf := some (fileOf pool2 1 #[] #[] 1537 3 #[] #[])
  fields := #[]
  methods := #[]
  instanceTypes := #[]
  staticTypes := #[]
  resolved := Array.replicate 7 none
  statics := none }

def pool3 : Array CpInfo := pool [(1, .class_ 2), (0, u "java/lang/Comparable"), (0, .class_ 4), (0, u "java/lang/Object")] 7

/-- java/lang/Comparable -/
def k3 : Class := { plain "java/lang/Comparable" (some 0) with
  accessFlags := 1537
  interfaces := #[]
  cf := some (fileOf pool3 1 #[] #[] 1537 3 #[] #[])
  fields := #[]
  methods := #[]
  instanceTypes := #[]
  staticTypes := #[]
  resolved := Array.replicate 12 none
  statics := none }

def pool4 : Array CpInfo := pool [(2, .class_ 4), (1, u "java/lang/CharSequence"), (42, .class_ 48), (0, u "java/lang/CharSequence$1CodePointIterator"), (10, .class_ 60), (0, u "java/lang/CharSequence$1CharIterator"), (5, .class_ 67), (0, u "java/lang/Object")] 63

/-- java/lang/CharSequence -/
def k4 : Class := { plain "java/lang/CharSequence" (some 0) with
  accessFlags := 1537
  interfaces := #[]
  cf := some (fileOf pool4 2 #[.nestMembers #[47, 59]] #[] 1537 66 #[] #[])
  fields := #[]
  methods := #[]
  instanceTypes := #[]
  staticTypes := #[]
  resolved := Array.replicate 131 none
  statics := none }

def pool5 : Array CpInfo := pool [(1, .class_ 2), (0, u "java/lang/constant/Constable"), (0, .class_ 4), (0, u "java/lang/Object")] 6

/-- java/lang/constant/Constable -/
def k5 : Class := { plain "java/lang/constant/Constable" (some 0) with
  accessFlags := 1537
  interfaces := #[]
  cf := some (fileOf pool5 1 #[] #[] 1537 3 #[] #[])
  fields := #[]
  methods := #[]
  instanceTypes := #[]
  staticTypes := #[]
  resolved := Array.replicate 11 none
  statics := none }

def pool6 : Array CpInfo := pool [(1, .class_ 2), (0, u "java/lang/constant/ConstantDesc"), (0, .class_ 4), (0, u "java/lang/Object")] 32

/-- java/lang/constant/ConstantDesc -/
def k6 : Class := { plain "java/lang/constant/ConstantDesc" (some 0) with
  accessFlags := 1537
  interfaces := #[]
  cf := some (fileOf pool6 1 #[] #[] 1537 3 #[] #[])
  fields := #[]
  methods := #[]
  instanceTypes := #[]
  staticTypes := #[]
  resolved := Array.replicate 37 none
  statics := none }

def pool7 : Array CpInfo := pool [(1, .methodref 2 3), (0, .class_ 4), (0, .nameAndType 5 6), (0, u "java/lang/Object"), (0, u "<init>"), (0, u "()V"), (0, .string 8), (0, u ""), (0, .fieldref 10 11), (0, .class_ 12), (0, .nameAndType 13 14), (0, u "java/lang/String"), (0, u "value"), (0, u "[B"), (0, .fieldref 10 16), (0, .nameAndType 17 18), (0, u "coder"), (0, u "B"), (2, u "hash"), (0, u "I"), (2, u "hashIsZero"), (0, u "Z"), (0, .methodref 10 28), (0, .nameAndType 5 29), (0, u "([CIILjava/lang/Void;)V"), (8, .fieldref 10 39), (0, .nameAndType 40 26), (0, u "COMPACT_STRINGS"), (1, .class_ 44), (1, u "java/lang/StringUTF16"), (0, u "compress"), (1, .methodref 42 48), (0, .nameAndType 49 50), (0, u "coderFromArrayLen"), (0, u "([BI)B"), (56, .class_ 109), (1, u "java/lang/StringLatin1"), (32, u "()Z"), (34, .methodref 42 178), (0, .nameAndType 45 179), (0, u "([CII)[B"), (154, u "()I"), (0, .methodref 10 336), (0, .nameAndType 17 337), (0, u "()B"), (25, u "([BI)C"), (27, u "(II)V"), (35, u "(I)C"), (64, .methodref 10 493), (0, .nameAndType 494 142), (0, u "isLatin1"), (0, .methodref 107 496), (0, .nameAndType 497 363), (0, u "charAt"), (0, .methodref 42 496), (2, u "checkIndex"), (5, u "length"), (67, .class_ 576), (0, u "java/lang/CharSequence"), (22, u "CASE_INSENSITIVE_ORDER"), (0, u "Ljava/util/Comparator;"), (409, u "([C)V"), (42, .fieldref 1054 1055), (0, .class_ 1056), (0, .nameAndType 1057 1058), (0, u "jdk/internal/util/Preconditions"), (0, u "SIOOBE_FORMATTER"), (0, u "Ljava/util/function/BiFunction;"), (0, .methodref 1054 1060), (0, .nameAndType 501 1061), (0, u "(IILjava/util/function/BiFunction;)I"), (39, u "serialPersistentFields"), (0, u "[Ljava/io/ObjectStreamField;"), (0, .class_ 1104), (0, u "java/lang/String$CaseInsensitiveComparator"), (1, .class_ 1107), (0, u "java/io/Serializable"), (0, .class_ 1109), (0, u "java/lang/Comparable"), (0, .class_ 1111), (0, u "java/lang/constant/Constable"), (0, .class_ 1113), (0, u "java/lang/constant/ConstantDesc"), (2, u "serialVersionUID"), (0, u "J"), (3, u "REPL"), (0, u "C"), (2, u "LATIN1"), (1, u "UTF16")] 323

def k7m0 : Method := { name := "<init>", desc := "()V", sig := { parameters := [], returnType := none }, accessFlags := 1, code := none }
def k7c1 : Code := { maxStack := 5, maxLocals := 2, code := jdk_42_method_3_code, exceptionTable := #[], attributes := #[] }
def k7m1 : Method := { name := "<init>", desc := "([C)V", sig := { parameters := [(.array .char)], returnType := none }, accessFlags := 1, code := some k7c1 }
def k7c2 : Code := { maxStack := 2, maxLocals := 1, code := jdk_42_method_54_code, exceptionTable := #[], attributes := #[] }
def k7m2 : Method := { name := "length", desc := "()I", sig := { parameters := [], returnType := some .int }, accessFlags := 1, code := some k7c2 }
def k7c3 : Code := { maxStack := 2, maxLocals := 2, code := jdk_42_method_56_code, exceptionTable := #[], attributes := #[] }
def k7m3 : Method := { name := "charAt", desc := "(I)C", sig := { parameters := [.int], returnType := some .char }, accessFlags := 1, code := some k7c3 }
def k7c4 : Code := { maxStack := 4, maxLocals := 6, code := jdk_42_method_149_code, exceptionTable := #[], attributes := #[] }
def k7m4 : Method := { name := "<init>", desc := "([CIILjava/lang/Void;)V", sig := { parameters := [(.array .char), .int, .int, (.object "java/lang/Void")], returnType := none }, accessFlags := 2, code := some k7c4 }
def k7c5 : Code := { maxStack := 1, maxLocals := 1, code := jdk_42_method_152_code, exceptionTable := #[], attributes := #[] }
def k7m5 : Method := { name := "coder", desc := "()B", sig := { parameters := [], returnType := some .byte }, accessFlags := 0, code := some k7c5 }
def k7c6 : Code := { maxStack := 1, maxLocals := 1, code := jdk_42_method_154_code, exceptionTable := #[], attributes := #[] }
def k7m6 : Method := { name := "isLatin1", desc := "()Z", sig := { parameters := [], returnType := some .boolean }, accessFlags := 0, code := some k7c6 }
def k7c7 : Code := { maxStack := 3, maxLocals := 2, code := jdk_42_method_155_code, exceptionTable := #[], attributes := #[] }
def k7m7 : Method := { name := "checkIndex", desc := "(II)V", sig := { parameters := [.int, .int], returnType := none }, accessFlags := 8, code := some k7c7 }
/-- java/lang/String -/
def k7 : Class := { plain "java/lang/String" (some 0) with
  accessFlags := 49
  interfaces := #[2, 3, 4, 5, 6]
  cf := some (fileOf pool7 10 #[.nestMembers #[1103]] #[{ accessFlags := 1, nameIndex := 5, descriptorIndex := 6, attributes := #[] }, { accessFlags := 1, nameIndex := 5, descriptorIndex := 1010, attributes := #[] }, { accessFlags := 1, nameIndex := 507, descriptorIndex := 334, attributes := #[] }, { accessFlags := 1, nameIndex := 497, descriptorIndex := 427, attributes := #[] }, { accessFlags := 2, nameIndex := 5, descriptorIndex := 29, attributes := #[] }, { accessFlags := 0, nameIndex := 17, descriptorIndex := 337, attributes := #[] }, { accessFlags := 0, nameIndex := 494, descriptorIndex := 142, attributes := #[] }, { accessFlags := 8, nameIndex := 501, descriptorIndex := 391, attributes := #[] }] 49 2 #[1106, 1108, 575, 1110, 1112] #[{ accessFlags := 18, nameIndex := 13, descriptorIndex := 14, attributes := #[] }, { accessFlags := 18, nameIndex := 17, descriptorIndex := 18, attributes := #[] }, { accessFlags := 2, nameIndex := 21, descriptorIndex := 22, attributes := #[] }, { accessFlags := 2, nameIndex := 25, descriptorIndex := 26, attributes := #[] }, { accessFlags := 26, nameIndex := 1116, descriptorIndex := 1117, attributes := #[] }, { accessFlags := 24, nameIndex := 40, descriptorIndex := 26, attributes := #[] }, { accessFlags := 26, nameIndex := 1101, descriptorIndex := 1102, attributes := #[] }, { accessFlags := 26, nameIndex := 1121, descriptorIndex := 1122, attributes := #[] }, { accessFlags := 25, nameIndex := 599, descriptorIndex := 600, attributes := #[] }, { accessFlags := 24, nameIndex := 1125, descriptorIndex := 18, attributes := #[] }, { accessFlags := 24, nameIndex := 1127, descriptorIndex := 18, attributes := #[] }])
  fields := #[{ name := "value", type := (.array .byte), accessFlags := 18, slot := 0, constantValue := 0 }, { name := "coder", type := .byte, accessFlags := 18, slot := 1, constantValue := 0 }, { name := "hash", type := .int, accessFlags := 2, slot := 2, constantValue := 0 }, { name := "hashIsZero", type := .boolean, accessFlags := 2, slot := 3, constantValue := 0 }, { name := "serialVersionUID", type := .long, accessFlags := 26, slot := 0, constantValue := 0 }, { name := "COMPACT_STRINGS", type := .boolean, accessFlags := 24, slot := 1, constantValue := 0 }, { name := "serialPersistentFields", type := (.array (.object "java/io/ObjectStreamField")), accessFlags := 26, slot := 2, constantValue := 0 }, { name := "REPL", type := .char, accessFlags := 26, slot := 3, constantValue := 0 }, { name := "CASE_INSENSITIVE_ORDER", type := (.object "java/util/Comparator"), accessFlags := 25, slot := 4, constantValue := 0 }, { name := "LATIN1", type := .byte, accessFlags := 24, slot := 5, constantValue := 0 }, { name := "UTF16", type := .byte, accessFlags := 24, slot := 6, constantValue := 0 }]
  methods := #[k7m0, k7m1, k7m2, k7m3, k7m4, k7m5, k7m6, k7m7]
  instanceTypes := #[(.array .byte), .byte, .int, .boolean]
  staticTypes := #[.long, .boolean, (.array (.object "java/io/ObjectStreamField")), .char, (.object "java/util/Comparator"), .byte, .byte]
  resolved := Array.replicate 1451 none
  statics := some 0 }

def pool8 : Array CpInfo := pool [(3, .class_ 4), (0, u "java/lang/String"), (1, .class_ 8), (1, u "java/lang/Object"), (0, u "<init>"), (0, u "()V"), (0, .methodref 12 13), (0, .class_ 14), (0, .nameAndType 15 16), (0, u "java/lang/StringUTF16"), (0, u "newBytesLength"), (0, u "(I)I"), (3, .integer 1073741823), (23, .fieldref 12 45), (0, .nameAndType 46 47), (0, u "$assertionsDisabled"), (0, u "Z"), (0, .methodref 12 49), (0, .nameAndType 50 51), (0, u "length"), (0, u "([B)I"), (7, .fieldref 12 60), (0, .nameAndType 61 62), (0, u "HI_BYTE_SHIFT"), (0, u "I"), (0, .fieldref 12 64), (0, .nameAndType 65 62), (0, u "LO_BYTE_SHIFT"), (1, .methodref 12 68), (0, .nameAndType 69 70), (0, u "checkIndex"), (0, u "(I[B)V"), (0, .methodref 12 72), (0, .nameAndType 73 74), (0, u "getChar"), (0, u "([BI)C"), (32, .methodref 12 108), (0, .nameAndType 109 110), (0, u "newBytesFor"), (0, u "(I)[B"), (0, .methodref 12 112), (0, .nameAndType 113 114), (0, u "putChar"), (0, u "([BII)V"), (0, .methodref 12 116), (0, .nameAndType 117 118), (0, u "compress"), (0, u "([CI[BII)I"), (0, .methodref 12 120), (0, .nameAndType 121 122), (0, u "toBytes"), (0, u "([CII)[B"), (138, u "coderFromArrayLen"), (0, u "([BI)B"), (106, .class_ 371), (1, u "java/lang/StringUTF16$LinesSpliterator"), (20, u "charAt"), (21, .methodref 3 415), (0, .nameAndType 69 416), (0, u "(II)V"), (13, u "MAX_LENGTH"), (196, .class_ 628), (0, u "java/lang/StringUTF16$CodePointsSpliterator"), (0, .class_ 630), (0, u "java/lang/StringUTF16$CharsSpliterator")] 4

def k8m0 : Method := { name := "<init>", desc := "()V", sig := { parameters := [], returnType := none }, accessFlags := 0, code := none }
def k8c1 : Code := { maxStack := 1, maxLocals := 1, code := jdk_52_method_2_code, exceptionTable := #[], attributes := #[] }
def k8m1 : Method := { name := "newBytesFor", desc := "(I)[B", sig := { parameters := [.int], returnType := some (.array .byte) }, accessFlags := 9, code := some k8c1 }
def k8c2 : Code := { maxStack := 4, maxLocals := 1, code := jdk_52_method_3_code, exceptionTable := #[], attributes := #[] }
def k8m2 : Method := { name := "newBytesLength", desc := "(I)I", sig := { parameters := [.int], returnType := some .int }, accessFlags := 9, code := some k8c2 }
def k8c3 : Code := { maxStack := 4, maxLocals := 3, code := jdk_52_method_4_code, exceptionTable := #[], attributes := #[] }
def k8m3 : Method := { name := "putChar", desc := "([BII)V", sig := { parameters := [(.array .byte), .int, .int], returnType := none }, accessFlags := 8, code := some k8c3 }
def k8c4 : Code := { maxStack := 3, maxLocals := 2, code := jdk_52_method_5_code, exceptionTable := #[], attributes := #[] }
def k8m4 : Method := { name := "getChar", desc := "([BI)C", sig := { parameters := [(.array .byte), .int], returnType := some .char }, accessFlags := 8, code := some k8c4 }
def k8c5 : Code := { maxStack := 2, maxLocals := 1, code := jdk_52_method_6_code, exceptionTable := #[], attributes := #[] }
def k8m5 : Method := { name := "length", desc := "([B)I", sig := { parameters := [(.array .byte)], returnType := some .int }, accessFlags := 9, code := some k8c5 }
def k8c6 : Code := { maxStack := 4, maxLocals := 5, code := jdk_52_method_14_code, exceptionTable := #[], attributes := #[] }
def k8m6 : Method := { name := "toBytes", desc := "([CII)[B", sig := { parameters := [(.array .char), .int, .int], returnType := some (.array .byte) }, accessFlags := 9, code := some k8c6 }
def k8c7 : Code := { maxStack := 2, maxLocals := 2, code := jdk_52_method_15_code, exceptionTable := #[], attributes := #[] }
def k8m7 : Method := { name := "coderFromArrayLen", desc := "([BI)B", sig := { parameters := [(.array .byte), .int], returnType := some .byte }, accessFlags := 8, code := some k8c7 }
def k8c8 : Code := { maxStack := 5, maxLocals := 6, code := jdk_52_method_16_code, exceptionTable := #[], attributes := #[] }
def k8m8 : Method := { name := "compress", desc := "([CII)[B", sig := { parameters := [(.array .char), .int, .int], returnType := some (.array .byte) }, accessFlags := 9, code := some k8c8 }
def k8c9 : Code := { maxStack := 3, maxLocals := 7, code := jdk_52_method_21_code, exceptionTable := #[], attributes := #[] }
def k8m9 : Method := { name := "compress", desc := "([CI[BII)I", sig := { parameters := [(.array .char), .int, (.array .byte), .int, .int], returnType := some .int }, accessFlags := 9, code := some k8c9 }
def k8c10 : Code := { maxStack := 2, maxLocals := 2, code := jdk_52_method_83_code, exceptionTable := #[], attributes := #[] }
def k8m10 : Method := { name := "charAt", desc := "([BI)C", sig := { parameters := [(.array .byte), .int], returnType := some .char }, accessFlags := 9, code := some k8c10 }
def k8c11 : Code := { maxStack := 2, maxLocals := 2, code := jdk_52_method_91_code, exceptionTable := #[], attributes := #[] }
def k8m11 : Method := { name := "checkIndex", desc := "(I[B)V", sig := { parameters := [.int, (.array .byte)], returnType := none }, accessFlags := 9, code := some k8c11 }
/-- java/lang/StringUTF16 -/
def k8 : Class := { plain "java/lang/StringUTF16" (some 0) with
  accessFlags := 48
  interfaces := #[]
  cf := some (fileOf pool8 12 #[.nestMembers #[627, 629, 369]] #[{ accessFlags := 0, nameIndex := 9, descriptorIndex := 10, attributes := #[] }, { accessFlags := 9, nameIndex := 109, descriptorIndex := 110, attributes := #[] }, { accessFlags := 9, nameIndex := 15, descriptorIndex := 16, attributes := #[] }, { accessFlags := 8, nameIndex := 113, descriptorIndex := 114, attributes := #[] }, { accessFlags := 8, nameIndex := 73, descriptorIndex := 74, attributes := #[] }, { accessFlags := 9, nameIndex := 50, descriptorIndex := 51, attributes := #[] }, { accessFlags := 9, nameIndex := 121, descriptorIndex := 122, attributes := #[] }, { accessFlags := 8, nameIndex := 261, descriptorIndex := 262, attributes := #[] }, { accessFlags := 9, nameIndex := 117, descriptorIndex := 122, attributes := #[] }, { accessFlags := 9, nameIndex := 117, descriptorIndex := 118, attributes := #[] }, { accessFlags := 9, nameIndex := 392, descriptorIndex := 74, attributes := #[] }, { accessFlags := 9, nameIndex := 69, descriptorIndex := 70, attributes := #[] }] 48 6 #[] #[{ accessFlags := 26, nameIndex := 61, descriptorIndex := 62, attributes := #[] }, { accessFlags := 26, nameIndex := 65, descriptorIndex := 62, attributes := #[] }, { accessFlags := 24, nameIndex := 430, descriptorIndex := 62, attributes := #[] }, { accessFlags := 4120, nameIndex := 46, descriptorIndex := 47, attributes := #[] }])
  fields := #[{ name := "HI_BYTE_SHIFT", type := .int, accessFlags := 26, slot := 0, constantValue := 0 }, { name := "LO_BYTE_SHIFT", type := .int, accessFlags := 26, slot := 1, constantValue := 0 }, { name := "MAX_LENGTH", type := .int, accessFlags := 24, slot := 2, constantValue := 0 }, { name := "$assertionsDisabled", type := .boolean, accessFlags := 4120, slot := 3, constantValue := 0 }]
  methods := #[k8m0, k8m1, k8m2, k8m3, k8m4, k8m5, k8m6, k8m7, k8m8, k8m9, k8m10, k8m11]
  instanceTypes := #[]
  staticTypes := #[.int, .int, .int, .boolean]
  resolved := Array.replicate 635 none
  statics := some 1 }

def pool9 : Array CpInfo := pool [(2, .class_ 4), (1, u "java/lang/Object"), (3, .class_ 10), (1, u "com/example/wary_bearer/warybearer/http/Http1Reader"), (0, u "in"), (0, u "Ljava/io/InputStream;"), (2, u "message"), (0, u "Ljava/lang/String;"), (2, u "headLimit"), (0, u "I"), (2, u "buffer"), (0, u "[B"), (2, u "end"), (2, u "start"), (3, u "()I"), (18, .class_ 54), (0, u "java/lang/String"), (29, u "(Ljava/lang/String;)Z"), (9, .methodref 53 95), (0, .nameAndType 96 34), (0, u "length"), (38, u "isFieldValue"), (8, .methodref 53 145), (0, .nameAndType 146 147), (0, u "charAt"), (0, u "(I)C"), (26, u "scanned"), (10, .class_ 186), (0, u "com/example/wary_bearer/warybearer/http/Http1Reader$Source"), (2, u "TCHAR"), (0, u "[Z"), (59, u "NOT_A_FIELD_VALUE"), (3, u "MAX_CHUNK_LINE")] 54

def k9c0 : Code := { maxStack := 2, maxLocals := 3, code := prog_13_method_11_code, exceptionTable := #[], attributes := #[] }
def k9m0 : Method := { name := "isFieldValue", desc := "(Ljava/lang/String;)Z", sig := { parameters := [(.object "java/lang/String")], returnType := some .boolean }, accessFlags := 9, code := some k9c0 }
/-- com/example/wary_bearer/warybearer/http/Http1Reader -/
def k9 : Class := { plain "com/example/wary_bearer/warybearer/http/Http1Reader" (some 0) with
  accessFlags := 49
  interfaces := #[]
  cf := some (fileOf pool9 8 #[.nestMembers #[185]] #[{ accessFlags := 9, nameIndex := 135, descriptorIndex := 84, attributes := #[] }] 49 2 #[] #[{ accessFlags := 25, nameIndex := 250, descriptorIndex := 16, attributes := #[] }, { accessFlags := 26, nameIndex := 254, descriptorIndex := 20, attributes := #[] }, { accessFlags := 26, nameIndex := 189, descriptorIndex := 190, attributes := #[] }, { accessFlags := 18, nameIndex := 11, descriptorIndex := 12, attributes := #[] }, { accessFlags := 18, nameIndex := 15, descriptorIndex := 16, attributes := #[] }, { accessFlags := 18, nameIndex := 19, descriptorIndex := 20, attributes := #[] }, { accessFlags := 2, nameIndex := 23, descriptorIndex := 24, attributes := #[] }, { accessFlags := 2, nameIndex := 30, descriptorIndex := 20, attributes := #[] }, { accessFlags := 2, nameIndex := 27, descriptorIndex := 20, attributes := #[] }, { accessFlags := 2, nameIndex := 174, descriptorIndex := 20, attributes := #[] }])
  fields := #[{ name := "NOT_A_FIELD_VALUE", type := (.object "java/lang/String"), accessFlags := 25, slot := 0, constantValue := 0 }, { name := "MAX_CHUNK_LINE", type := .int, accessFlags := 26, slot := 1, constantValue := 0 }, { name := "TCHAR", type := (.array .boolean), accessFlags := 26, slot := 2, constantValue := 0 }, { name := "in", type := (.object "java/io/InputStream"), accessFlags := 18, slot := 0, constantValue := 0 }, { name := "message", type := (.object "java/lang/String"), accessFlags := 18, slot := 1, constantValue := 0 }, { name := "headLimit", type := .int, accessFlags := 18, slot := 2, constantValue := 0 }, { name := "buffer", type := (.array .byte), accessFlags := 2, slot := 3, constantValue := 0 }, { name := "start", type := .int, accessFlags := 2, slot := 4, constantValue := 0 }, { name := "end", type := .int, accessFlags := 2, slot := 5, constantValue := 0 }, { name := "scanned", type := .int, accessFlags := 2, slot := 6, constantValue := 0 }]
  methods := #[k9m0]
  instanceTypes := #[(.object "java/io/InputStream"), (.object "java/lang/String"), .int, (.array .byte), .int, .int, .int]
  staticTypes := #[(.object "java/lang/String"), .int, (.array .boolean)]
  resolved := Array.replicate 309 none
  statics := none }

def pool10 : Array CpInfo := pool [(1, .class_ 2), (0, u "java/lang/String"), (1, .class_ 6), (1, u "java/lang/Object"), (0, u "<init>"), (0, u "()V"), (0, .methodref 1 10), (0, .nameAndType 11 12), (0, u "checkIndex"), (0, u "(II)V"), (1, .class_ 16), (1, u "java/lang/StringLatin1"), (36, u "([BI)C"), (67, u "$assertionsDisabled"), (0, u "Z"), (98, .class_ 223), (1, u "java/lang/StringLatin1$LinesSpliterator"), (28, u "charAt"), (137, .class_ 391), (0, u "java/lang/StringLatin1$CharsSpliterator")] 3

def k10m0 : Method := { name := "<init>", desc := "()V", sig := { parameters := [], returnType := none }, accessFlags := 0, code := none }
def k10c1 : Code := { maxStack := 2, maxLocals := 2, code := jdk_43_method_2_code, exceptionTable := #[], attributes := #[] }
def k10m1 : Method := { name := "charAt", desc := "([BI)C", sig := { parameters := [(.array .byte), .int], returnType := some .char }, accessFlags := 9, code := some k10c1 }
/-- java/lang/StringLatin1 -/
def k10 : Class := { plain "java/lang/StringLatin1" (some 0) with
  accessFlags := 48
  interfaces := #[]
  cf := some (fileOf pool10 14 #[.nestMembers #[390, 221]] #[{ accessFlags := 0, nameIndex := 7, descriptorIndex := 8, attributes := #[] }, { accessFlags := 9, nameIndex := 252, descriptorIndex := 53, attributes := #[] }] 48 4 #[] #[{ accessFlags := 4120, nameIndex := 121, descriptorIndex := 122, attributes := #[] }])
  fields := #[{ name := "$assertionsDisabled", type := .boolean, accessFlags := 4120, slot := 0, constantValue := 0 }]
  methods := #[k10m0, k10m1]
  instanceTypes := #[]
  staticTypes := #[.boolean]
  resolved := Array.replicate 395 none
  statics := none }

def pool11 : Array CpInfo := pool [(2, .class_ 4), (1, u "java/lang/Object"), (0, u "<init>"), (0, u "()V"), (17, .class_ 26), (1, u "jdk/internal/util/Preconditions"), (6, u "checkIndex"), (21, .class_ 56), (0, u "jdk/internal/util/Preconditions$4"), (57, .class_ 115), (0, u "jdk/internal/util/Preconditions$1"), (7, u "SIOOBE_FORMATTER"), (0, u "Ljava/util/function/BiFunction;"), (0, .class_ 126), (0, u "jdk/internal/util/Preconditions$2"), (3, u "AIOOBE_FORMATTER"), (0, .class_ 132), (0, u "jdk/internal/util/Preconditions$3"), (3, u "IOOBE_FORMATTER"), (41, u "(IILjava/util/function/BiFunction;)I")] 15

def k11m0 : Method := { name := "<init>", desc := "()V", sig := { parameters := [], returnType := none }, accessFlags := 1, code := none }
def k11c1 : Code := { maxStack := 3, maxLocals := 3, code := jdk_41_method_11_code, exceptionTable := #[], attributes := #[] }
def k11m1 : Method := { name := "checkIndex", desc := "(IILjava/util/function/BiFunction;)I", sig := { parameters := [.int, .int, (.object "java/util/function/BiFunction")], returnType := some .int }, accessFlags := 9, code := some k11c1 }
/-- jdk/internal/util/Preconditions -/
def k11 : Class := { plain "jdk/internal/util/Preconditions" (some 0) with
  accessFlags := 33
  interfaces := #[]
  cf := some (fileOf pool11 24 #[.nestMembers #[55, 131, 125, 114]] #[{ accessFlags := 1, nameIndex := 5, descriptorIndex := 6, attributes := #[] }, { accessFlags := 9, nameIndex := 33, descriptorIndex := 178, attributes := #[] }] 33 2 #[] #[{ accessFlags := 25, nameIndex := 123, descriptorIndex := 124, attributes := #[] }, { accessFlags := 25, nameIndex := 130, descriptorIndex := 124, attributes := #[] }, { accessFlags := 25, nameIndex := 136, descriptorIndex := 124, attributes := #[] }])
  fields := #[{ name := "SIOOBE_FORMATTER", type := (.object "java/util/function/BiFunction"), accessFlags := 25, slot := 0, constantValue := 0 }, { name := "AIOOBE_FORMATTER", type := (.object "java/util/function/BiFunction"), accessFlags := 25, slot := 1, constantValue := 0 }, { name := "IOOBE_FORMATTER", type := (.object "java/util/function/BiFunction"), accessFlags := 25, slot := 2, constantValue := 0 }]
  methods := #[k11m0, k11m1]
  instanceTypes := #[]
  staticTypes := #[(.object "java/util/function/BiFunction"), (.object "java/util/function/BiFunction"), (.object "java/util/function/BiFunction")]
  resolved := Array.replicate 194 none
  statics := some 2 }

def pool12 : Array CpInfo := pool [(9, u "<init>"), (6, .class_ 18), (1, u "java/lang/Object"), (0, u "()V"), (1, .class_ 23), (1, u "jdk/internal/util/ArraysSupport"), (0, u "LOG2_ARRAY_LONG_INDEX_SCALE"), (0, u "I"), (2, u "U"), (0, u "Ljdk/internal/misc/Unsafe;"), (8, u "BIG_ENDIAN"), (0, u "Z"), (8, u "LOG2_BYTE_BIT_SIZE"), (4, u "LOG2_ARRAY_INT_INDEX_SCALE"), (54, u "JLA"), (0, u "Ljdk/internal/access/JavaLangAccess;"), (11, u "LOG2_ARRAY_BOOLEAN_INDEX_SCALE"), (9, u "LOG2_ARRAY_BYTE_INDEX_SCALE"), (5, u "LOG2_ARRAY_CHAR_INDEX_SCALE"), (5, u "LOG2_ARRAY_SHORT_INDEX_SCALE"), (18, u "LOG2_ARRAY_FLOAT_INDEX_SCALE"), (24, u "LOG2_ARRAY_DOUBLE_INDEX_SCALE"), (89, u "T_BOOLEAN"), (2, u "T_CHAR"), (1, u "T_FLOAT"), (1, u "T_DOUBLE"), (1, u "T_BYTE"), (1, u "T_SHORT"), (1, u "T_INT"), (1, u "T_LONG"), (1, u "SOFT_MAX_ARRAY_LENGTH")] 83

def k12m0 : Method := { name := "<init>", desc := "()V", sig := { parameters := [], returnType := none }, accessFlags := 2, code := none }
/-- jdk/internal/util/ArraysSupport -/
def k12 : Class := { plain "jdk/internal/util/ArraysSupport" (some 0) with
  accessFlags := 33
  interfaces := #[]
  cf := some (fileOf pool12 21 #[] #[{ accessFlags := 2, nameIndex := 9, descriptorIndex := 19, attributes := #[] }] 33 16 #[] #[{ accessFlags := 24, nameIndex := 28, descriptorIndex := 29, attributes := #[] }, { accessFlags := 26, nameIndex := 38, descriptorIndex := 39, attributes := #[] }, { accessFlags := 25, nameIndex := 121, descriptorIndex := 25, attributes := #[] }, { accessFlags := 25, nameIndex := 131, descriptorIndex := 25, attributes := #[] }, { accessFlags := 25, nameIndex := 137, descriptorIndex := 25, attributes := #[] }, { accessFlags := 25, nameIndex := 143, descriptorIndex := 25, attributes := #[] }, { accessFlags := 25, nameIndex := 53, descriptorIndex := 25, attributes := #[] }, { accessFlags := 25, nameIndex := 24, descriptorIndex := 25, attributes := #[] }, { accessFlags := 25, nameIndex := 162, descriptorIndex := 25, attributes := #[] }, { accessFlags := 25, nameIndex := 187, descriptorIndex := 25, attributes := #[] }, { accessFlags := 26, nameIndex := 48, descriptorIndex := 25, attributes := #[] }, { accessFlags := 25, nameIndex := 277, descriptorIndex := 25, attributes := #[] }, { accessFlags := 25, nameIndex := 280, descriptorIndex := 25, attributes := #[] }, { accessFlags := 25, nameIndex := 282, descriptorIndex := 25, attributes := #[] }, { accessFlags := 25, nameIndex := 284, descriptorIndex := 25, attributes := #[] }, { accessFlags := 25, nameIndex := 286, descriptorIndex := 25, attributes := #[] }, { accessFlags := 25, nameIndex := 288, descriptorIndex := 25, attributes := #[] }, { accessFlags := 25, nameIndex := 290, descriptorIndex := 25, attributes := #[] }, { accessFlags := 25, nameIndex := 292, descriptorIndex := 25, attributes := #[] }, { accessFlags := 26, nameIndex := 108, descriptorIndex := 109, attributes := #[] }, { accessFlags := 25, nameIndex := 294, descriptorIndex := 25, attributes := #[] }])
  fields := #[{ name := "U", type := (.object "jdk/internal/misc/Unsafe"), accessFlags := 24, slot := 0, constantValue := 0 }, { name := "BIG_ENDIAN", type := .boolean, accessFlags := 26, slot := 1, constantValue := 0 }, { name := "LOG2_ARRAY_BOOLEAN_INDEX_SCALE", type := .int, accessFlags := 25, slot := 2, constantValue := 0 }, { name := "LOG2_ARRAY_BYTE_INDEX_SCALE", type := .int, accessFlags := 25, slot := 3, constantValue := 0 }, { name := "LOG2_ARRAY_CHAR_INDEX_SCALE", type := .int, accessFlags := 25, slot := 4, constantValue := 0 }, { name := "LOG2_ARRAY_SHORT_INDEX_SCALE", type := .int, accessFlags := 25, slot := 5, constantValue := 0 }, { name := "LOG2_ARRAY_INT_INDEX_SCALE", type := .int, accessFlags := 25, slot := 6, constantValue := 0 }, { name := "LOG2_ARRAY_LONG_INDEX_SCALE", type := .int, accessFlags := 25, slot := 7, constantValue := 0 }, { name := "LOG2_ARRAY_FLOAT_INDEX_SCALE", type := .int, accessFlags := 25, slot := 8, constantValue := 0 }, { name := "LOG2_ARRAY_DOUBLE_INDEX_SCALE", type := .int, accessFlags := 25, slot := 9, constantValue := 0 }, { name := "LOG2_BYTE_BIT_SIZE", type := .int, accessFlags := 26, slot := 10, constantValue := 0 }, { name := "T_BOOLEAN", type := .int, accessFlags := 25, slot := 11, constantValue := 0 }, { name := "T_CHAR", type := .int, accessFlags := 25, slot := 12, constantValue := 0 }, { name := "T_FLOAT", type := .int, accessFlags := 25, slot := 13, constantValue := 0 }, { name := "T_DOUBLE", type := .int, accessFlags := 25, slot := 14, constantValue := 0 }, { name := "T_BYTE", type := .int, accessFlags := 25, slot := 15, constantValue := 0 }, { name := "T_SHORT", type := .int, accessFlags := 25, slot := 16, constantValue := 0 }, { name := "T_INT", type := .int, accessFlags := 25, slot := 17, constantValue := 0 }, { name := "T_LONG", type := .int, accessFlags := 25, slot := 18, constantValue := 0 }, { name := "JLA", type := (.object "jdk/internal/access/JavaLangAccess"), accessFlags := 26, slot := 19, constantValue := 0 }, { name := "SOFT_MAX_ARRAY_LENGTH", type := .int, accessFlags := 25, slot := 20, constantValue := 0 }]
  methods := #[k12m0]
  instanceTypes := #[]
  staticTypes := #[(.object "jdk/internal/misc/Unsafe"), .boolean, .int, .int, .int, .int, .int, .int, .int, .int, .int, .int, .int, .int, .int, .int, .int, .int, .int, (.object "jdk/internal/access/JavaLangAccess"), .int]
  resolved := Array.replicate 378 none
  statics := none }

def pool13 : Array CpInfo := pool [(1, u "java/lang/Cloneable"), (0, .class_ 1), (0, u "java/lang/Object"), (0, .class_ 3)] 3

/-- java/lang/Cloneable -/
def k13 : Class := { plain "java/lang/Cloneable" (some 0) with
  accessFlags := 1537
  interfaces := #[]
  cf := some (fileOf pool13 2 #[] #[] 1537 4 #[] #[])
  fields := #[]
  methods := #[]
  instanceTypes := #[]
  staticTypes := #[]
  resolved := Array.replicate 8 none
  statics := none }

/-- the primitive byte -/
def k14 : Class := { plain "byte" none with kind := .primitive 'B', accessFlags := 0x411 }
/-- [B -/
def k15 : Class := { plain "[B" (some 0) with kind := .array 14 .byte, interfaces := #[13, 2], accessFlags := 1041 }

/-- the primitive char -/
def k16 : Class := { plain "char" none with kind := .primitive 'C', accessFlags := 0x411 }
/-- [C -/
def k17 : Class := { plain "[C" (some 0) with kind := .array 16 .char, interfaces := #[13, 2], accessFlags := 1041 }

/-- the primitive int -/
def k18 : Class := { plain "int" none with kind := .primitive 'I', accessFlags := 0x411 }
/-- [I -/
def k19 : Class := { plain "[I" (some 0) with kind := .array 18 .int, interfaces := #[13, 2], accessFlags := 1041 }

def heap : Heap := #[{ cls := 7, slots := #[.long 0, .int 1, .null, .int 0, .null, .int 0, .int 0], vm := .statics 7 },
  { cls := 8, slots := #[.int 0, .int 8, .int 0, .int 1], vm := .statics 8 },
  { cls := 11, slots := #[.null, .null, .null], vm := .statics 11 }]
def classes : Array Class := #[k0, k1, k2, k3, k4, k5, k6, k7, k8, k9, k10, k11, k12, k13, k14, k15, k16, k17, k18, k19]
def interned : List (Array UInt16 × Addr) := []
def slotsUsed : Nat := 14
def theMethod : MethodId := ⟨1, 2⟩
def args0 : Array Value := #[.int 65, .int 66, .int 67, .int 1]
def aboutOver (below : List Frame) : State where
  vm := { classes := classes, interned := interned.toArray }
  heap := heap
  slotsUsed := slotsUsed
  threads := #[{ frames := .invoking theMethod args0 :: below }]
def below0 : List Frame := [.native { method := ⟨0, 0⟩, args := #[] }]
def about1 : State := aboutOver below0
def p0 : Program := .bare "" "" ""
def e0 : Env := launch0.env 0 0 0
theorem w_frames : about1.frames = Frame.invoking theMethod args0 :: below0 := rfl
set_option maxRecDepth 65536 in
theorem w_args : argsFit about1.vm theMethod args0 = true := by decide +kernel
set_option maxRecDepth 65536 in
theorem w_heap : heapFits about1 = true := by decide +kernel
set_option maxRecDepth 65536 in
theorem w_runnable : about1.curStatus? = some .runnable := by decide +kernel
set_option maxRecDepth 65536 in
theorem w_alone : about1.alone = true := by decide +kernel
set_option maxRecDepth 65536 in
theorem w_named : about1.methodNamed? x = some theMethod := by decide +kernel
set_option maxRecDepth 65536 in
theorem w_hears : about1.hears theMethod below0 = true := by decide +kernel
set_option maxRecDepth 65536 in
theorem w_ripe : about1.ripe theMethod args0 below0 = true := by decide +kernel
theorem w_running : about1.status = .running := rfl
set_option maxRecDepth 65536 in
theorem w_room : about1.hasRoom e0.platform room_1 = true :=
  launch0.hasRoom_least _ room_1 (by decide +kernel) (by decide +kernel) (by decide +kernel) (by decide +kernel) (by decide +kernel) (by decide +kernel)
theorem allAtoms_all (ts : List Jvm.Cond) (a : Array Jvm.Value) (st : Jvm.State) : (allAtoms ts).before a st = ts.all (fun c => c.before a st) := by
  induction ts with
  | nil => rfl
  | cons c t ih =>
    show (Jvm.Cond.and c (allAtoms t)).before a st = _
    rw [Jvm.Cond.before_and, ih, List.all_cons]
def words1 : List Jvm.Cond := Jvm.Cond.code x code maxLocals ret :: tables_1
/-- a 'code' word, met by the world's own term for the bytes: nothing is compared byte by byte -/
theorem code_word {y : MethodName} {bytes : ByteArray} {mx : Nat} {rt : Option FieldType} {a : Array Value} {s : State} {m : MethodId} {meth : Method} {c : Code} (h1 : s.methodNamed? y = some m) (h2 : s.vm.method? m = some meth) (h3 : meth.code = some c) (h4 : c.code = bytes)
    (h5 : (c.maxLocals == mx && c.exceptionTable.isEmpty && decide (c.maxStack ≤ mostOperands) && decide (meth.sig.returnType = rt) && !meth.locks && decide (parseMethodDescriptor y.desc = some meth.sig)) = true) : (Jvm.Cond.code y bytes mx rt).before a s = true := by
  simp only [Bool.and_eq_true, beq_iff_eq, Bool.not_eq_true', decide_eq_true_eq] at h5
  obtain ⟨⟨⟨⟨⟨g1, g2⟩, g3⟩, g4⟩, g5⟩, g6⟩ := h5
  simp [Cond.before, Cond.holds, Cond.value, h1, h2, h3, h4, g1, g2, g3, g4, g5, g6]
def isCode : Jvm.Cond → Bool
  | .code _ _ _ _ => true
  | _ => false
theorem all_split {L : List Jvm.Cond} {P : Jvm.Cond → Bool} (h1 : L.all (fun c => isCode c || P c) = true) (h2 : ∀ c ∈ L.filter isCode, P c = true) : L.all P = true := by
  refine List.all_eq_true.mpr fun c hc => ?_
  have h := List.all_eq_true.mp h1 c hc
  rcases Bool.eq_false_or_eq_true (isCode c) with hi | hi
  · exact h2 c (List.mem_filter.mpr ⟨hc, hi⟩)
  · simpa [hi] using h
set_option maxRecDepth 65536 in
theorem w_c0 : (Jvm.Cond.code x code maxLocals ret).before args0 about1 = true := code_word (m := ⟨1, 2⟩) (meth := k1m2) (c := k1c2) (by decide +kernel) rfl rfl rfl (by decide +kernel)
set_option maxRecDepth 65536 in
theorem w_c1 : (Jvm.Cond.code ({ cls := "java/lang/String", name := "<init>", desc := "([C)V" } : Jvm.MethodName) jdk_42_method_3_code (2 : Nat) (Option.none : Option Jvm.ClassFile.FieldType)).before args0 about1 = true := code_word (m := ⟨7, 1⟩) (meth := k7m1) (c := k7c1) (by decide +kernel) rfl rfl rfl (by decide +kernel)
set_option maxRecDepth 65536 in
theorem w_c2 : (Jvm.Cond.code ({ cls := "java/lang/String", name := "<init>", desc := "([CIILjava/lang/Void;)V" } : Jvm.MethodName) jdk_42_method_149_code (6 : Nat) (Option.none : Option Jvm.ClassFile.FieldType)).before args0 about1 = true := code_word (m := ⟨7, 4⟩) (meth := k7m4) (c := k7c4) (by decide +kernel) rfl rfl rfl (by decide +kernel)
set_option maxRecDepth 65536 in
theorem w_c3 : (Jvm.Cond.code ({ cls := "java/lang/Object", name := "<init>", desc := "()V" } : Jvm.MethodName) object_method_1_code (1 : Nat) (Option.none : Option Jvm.ClassFile.FieldType)).before args0 about1 = true := code_word (m := ⟨0, 0⟩) (meth := k0m0) (c := k0c0) (by decide +kernel) rfl rfl rfl (by decide +kernel)
set_option maxRecDepth 65536 in
theorem w_c4 : (Jvm.Cond.code ({ cls := "java/lang/StringUTF16", name := "compress", desc := "([CII)[B" } : Jvm.MethodName) jdk_52_method_16_code (6 : Nat) (Option.some (Jvm.ClassFile.FieldType.array Jvm.ClassFile.FieldType.byte))).before args0 about1 = true := code_word (m := ⟨8, 8⟩) (meth := k8m8) (c := k8c8) (by decide +kernel) rfl rfl rfl (by decide +kernel)
set_option maxRecDepth 65536 in
theorem w_c5 : (Jvm.Cond.code ({ cls := "java/lang/StringUTF16", name := "compress", desc := "([CI[BII)I" } : Jvm.MethodName) jdk_52_method_21_code (7 : Nat) (Option.some Jvm.ClassFile.FieldType.int)).before args0 about1 = true := code_word (m := ⟨8, 9⟩) (meth := k8m9) (c := k8c9) (by decide +kernel) rfl rfl rfl (by decide +kernel)
set_option maxRecDepth 65536 in
theorem w_c6 : (Jvm.Cond.code ({ cls := "java/lang/StringUTF16", name := "coderFromArrayLen", desc := "([BI)B" } : Jvm.MethodName) jdk_52_method_15_code (2 : Nat) (Option.some Jvm.ClassFile.FieldType.byte)).before args0 about1 = true := code_word (m := ⟨8, 7⟩) (meth := k8m7) (c := k8c7) (by decide +kernel) rfl rfl rfl (by decide +kernel)
set_option maxRecDepth 65536 in
theorem w_c7 : (Jvm.Cond.code ({ cls := "com/example/wary_bearer/warybearer/http/Http1ReaderIsFieldValuePinLaw", name := "allowed", desc := "(C)Z" } : Jvm.MethodName) method_2_code (1 : Nat) (Option.some Jvm.ClassFile.FieldType.boolean)).before args0 about1 = true := code_word (m := ⟨1, 1⟩) (meth := k1m1) (c := k1c1) (by decide +kernel) rfl rfl rfl (by decide +kernel)
set_option maxRecDepth 65536 in
theorem w_c8 : (Jvm.Cond.code ({ cls := "com/example/wary_bearer/warybearer/http/Http1Reader", name := "isFieldValue", desc := "(Ljava/lang/String;)Z" } : Jvm.MethodName) prog_13_method_11_code (3 : Nat) (Option.some Jvm.ClassFile.FieldType.boolean)).before args0 about1 = true := code_word (m := ⟨9, 0⟩) (meth := k9m0) (c := k9c0) (by decide +kernel) rfl rfl rfl (by decide +kernel)
set_option maxRecDepth 65536 in
theorem w_c9 : (Jvm.Cond.code ({ cls := "java/lang/String", name := "length", desc := "()I" } : Jvm.MethodName) jdk_42_method_54_code (1 : Nat) (Option.some Jvm.ClassFile.FieldType.int)).before args0 about1 = true := code_word (m := ⟨7, 2⟩) (meth := k7m2) (c := k7c2) (by decide +kernel) rfl rfl rfl (by decide +kernel)
set_option maxRecDepth 65536 in
theorem w_c10 : (Jvm.Cond.code ({ cls := "java/lang/String", name := "coder", desc := "()B" } : Jvm.MethodName) jdk_42_method_152_code (1 : Nat) (Option.some Jvm.ClassFile.FieldType.byte)).before args0 about1 = true := code_word (m := ⟨7, 5⟩) (meth := k7m5) (c := k7c5) (by decide +kernel) rfl rfl rfl (by decide +kernel)
set_option maxRecDepth 65536 in
theorem w_c11 : (Jvm.Cond.code ({ cls := "java/lang/String", name := "charAt", desc := "(I)C" } : Jvm.MethodName) jdk_42_method_56_code (2 : Nat) (Option.some Jvm.ClassFile.FieldType.char)).before args0 about1 = true := code_word (m := ⟨7, 3⟩) (meth := k7m3) (c := k7c3) (by decide +kernel) rfl rfl rfl (by decide +kernel)
set_option maxRecDepth 65536 in
theorem w_c12 : (Jvm.Cond.code ({ cls := "java/lang/String", name := "isLatin1", desc := "()Z" } : Jvm.MethodName) jdk_42_method_154_code (1 : Nat) (Option.some Jvm.ClassFile.FieldType.boolean)).before args0 about1 = true := code_word (m := ⟨7, 6⟩) (meth := k7m6) (c := k7c6) (by decide +kernel) rfl rfl rfl (by decide +kernel)
set_option maxRecDepth 65536 in
theorem w_c13 : (Jvm.Cond.code ({ cls := "java/lang/StringLatin1", name := "charAt", desc := "([BI)C" } : Jvm.MethodName) jdk_43_method_2_code (2 : Nat) (Option.some Jvm.ClassFile.FieldType.char)).before args0 about1 = true := code_word (m := ⟨10, 1⟩) (meth := k10m1) (c := k10c1) (by decide +kernel) rfl rfl rfl (by decide +kernel)
set_option maxRecDepth 65536 in
theorem w_c14 : (Jvm.Cond.code ({ cls := "java/lang/String", name := "checkIndex", desc := "(II)V" } : Jvm.MethodName) jdk_42_method_155_code (2 : Nat) (Option.none : Option Jvm.ClassFile.FieldType)).before args0 about1 = true := code_word (m := ⟨7, 7⟩) (meth := k7m7) (c := k7c7) (by decide +kernel) rfl rfl rfl (by decide +kernel)
set_option maxRecDepth 65536 in
theorem w_c15 : (Jvm.Cond.code ({ cls := "jdk/internal/util/Preconditions", name := "checkIndex", desc := "(IILjava/util/function/BiFunction;)I" } : Jvm.MethodName) jdk_41_method_11_code (3 : Nat) (Option.some Jvm.ClassFile.FieldType.int)).before args0 about1 = true := code_word (m := ⟨11, 1⟩) (meth := k11m1) (c := k11c1) (by decide +kernel) rfl rfl rfl (by decide +kernel)
set_option maxRecDepth 65536 in
theorem w_c16 : (Jvm.Cond.code ({ cls := "java/lang/StringUTF16", name := "toBytes", desc := "([CII)[B" } : Jvm.MethodName) jdk_52_method_14_code (5 : Nat) (Option.some (Jvm.ClassFile.FieldType.array Jvm.ClassFile.FieldType.byte))).before args0 about1 = true := code_word (m := ⟨8, 6⟩) (meth := k8m6) (c := k8c6) (by decide +kernel) rfl rfl rfl (by decide +kernel)
set_option maxRecDepth 65536 in
theorem w_c17 : (Jvm.Cond.code ({ cls := "java/lang/StringUTF16", name := "newBytesFor", desc := "(I)[B" } : Jvm.MethodName) jdk_52_method_2_code (1 : Nat) (Option.some (Jvm.ClassFile.FieldType.array Jvm.ClassFile.FieldType.byte))).before args0 about1 = true := code_word (m := ⟨8, 1⟩) (meth := k8m1) (c := k8c1) (by decide +kernel) rfl rfl rfl (by decide +kernel)
set_option maxRecDepth 65536 in
theorem w_c18 : (Jvm.Cond.code ({ cls := "java/lang/StringUTF16", name := "newBytesLength", desc := "(I)I" } : Jvm.MethodName) jdk_52_method_3_code (1 : Nat) (Option.some Jvm.ClassFile.FieldType.int)).before args0 about1 = true := code_word (m := ⟨8, 2⟩) (meth := k8m2) (c := k8c2) (by decide +kernel) rfl rfl rfl (by decide +kernel)
set_option maxRecDepth 65536 in
theorem w_c19 : (Jvm.Cond.code ({ cls := "java/lang/StringUTF16", name := "putChar", desc := "([BII)V" } : Jvm.MethodName) jdk_52_method_4_code (3 : Nat) (Option.none : Option Jvm.ClassFile.FieldType)).before args0 about1 = true := code_word (m := ⟨8, 3⟩) (meth := k8m3) (c := k8c3) (by decide +kernel) rfl rfl rfl (by decide +kernel)
set_option maxRecDepth 65536 in
theorem w_c20 : (Jvm.Cond.code ({ cls := "java/lang/StringUTF16", name := "getChar", desc := "([BI)C" } : Jvm.MethodName) jdk_52_method_5_code (2 : Nat) (Option.some Jvm.ClassFile.FieldType.char)).before args0 about1 = true := code_word (m := ⟨8, 4⟩) (meth := k8m4) (c := k8c4) (by decide +kernel) rfl rfl rfl (by decide +kernel)
set_option maxRecDepth 65536 in
theorem w_c21 : (Jvm.Cond.code ({ cls := "java/lang/StringUTF16", name := "charAt", desc := "([BI)C" } : Jvm.MethodName) jdk_52_method_83_code (2 : Nat) (Option.some Jvm.ClassFile.FieldType.char)).before args0 about1 = true := code_word (m := ⟨8, 10⟩) (meth := k8m10) (c := k8c10) (by decide +kernel) rfl rfl rfl (by decide +kernel)
set_option maxRecDepth 65536 in
theorem w_c22 : (Jvm.Cond.code ({ cls := "java/lang/StringUTF16", name := "checkIndex", desc := "(I[B)V" } : Jvm.MethodName) jdk_52_method_91_code (2 : Nat) (Option.none : Option Jvm.ClassFile.FieldType)).before args0 about1 = true := code_word (m := ⟨8, 11⟩) (meth := k8m11) (c := k8c11) (by decide +kernel) rfl rfl rfl (by decide +kernel)
set_option maxRecDepth 65536 in
theorem w_c23 : (Jvm.Cond.code ({ cls := "java/lang/StringUTF16", name := "length", desc := "([B)I" } : Jvm.MethodName) jdk_52_method_6_code (1 : Nat) (Option.some Jvm.ClassFile.FieldType.int)).before args0 about1 = true := code_word (m := ⟨8, 5⟩) (meth := k8m5) (c := k8c5) (by decide +kernel) rfl rfl rfl (by decide +kernel)
def codes1 : List Jvm.Cond := [Jvm.Cond.code x code maxLocals ret, Jvm.Cond.code ({ cls := "java/lang/String", name := "<init>", desc := "([C)V" } : Jvm.MethodName) jdk_42_method_3_code (2 : Nat) (Option.none : Option Jvm.ClassFile.FieldType), Jvm.Cond.code ({ cls := "java/lang/String", name := "<init>", desc := "([CIILjava/lang/Void;)V" } : Jvm.MethodName) jdk_42_method_149_code (6 : Nat) (Option.none : Option Jvm.ClassFile.FieldType), Jvm.Cond.code ({ cls := "java/lang/Object", name := "<init>", desc := "()V" } : Jvm.MethodName) object_method_1_code (1 : Nat) (Option.none : Option Jvm.ClassFile.FieldType), Jvm.Cond.code ({ cls := "java/lang/StringUTF16", name := "compress", desc := "([CII)[B" } : Jvm.MethodName) jdk_52_method_16_code (6 : Nat) (Option.some (Jvm.ClassFile.FieldType.array Jvm.ClassFile.FieldType.byte)), Jvm.Cond.code ({ cls := "java/lang/StringUTF16", name := "compress", desc := "([CI[BII)I" } : Jvm.MethodName) jdk_52_method_21_code (7 : Nat) (Option.some Jvm.ClassFile.FieldType.int), Jvm.Cond.code ({ cls := "java/lang/StringUTF16", name := "coderFromArrayLen", desc := "([BI)B" } : Jvm.MethodName) jdk_52_method_15_code (2 : Nat) (Option.some Jvm.ClassFile.FieldType.byte), Jvm.Cond.code ({ cls := "com/example/wary_bearer/warybearer/http/Http1ReaderIsFieldValuePinLaw", name := "allowed", desc := "(C)Z" } : Jvm.MethodName) method_2_code (1 : Nat) (Option.some Jvm.ClassFile.FieldType.boolean), Jvm.Cond.code ({ cls := "com/example/wary_bearer/warybearer/http/Http1Reader", name := "isFieldValue", desc := "(Ljava/lang/String;)Z" } : Jvm.MethodName) prog_13_method_11_code (3 : Nat) (Option.some Jvm.ClassFile.FieldType.boolean), Jvm.Cond.code ({ cls := "java/lang/String", name := "length", desc := "()I" } : Jvm.MethodName) jdk_42_method_54_code (1 : Nat) (Option.some Jvm.ClassFile.FieldType.int), Jvm.Cond.code ({ cls := "java/lang/String", name := "coder", desc := "()B" } : Jvm.MethodName) jdk_42_method_152_code (1 : Nat) (Option.some Jvm.ClassFile.FieldType.byte), Jvm.Cond.code ({ cls := "java/lang/String", name := "charAt", desc := "(I)C" } : Jvm.MethodName) jdk_42_method_56_code (2 : Nat) (Option.some Jvm.ClassFile.FieldType.char), Jvm.Cond.code ({ cls := "java/lang/String", name := "isLatin1", desc := "()Z" } : Jvm.MethodName) jdk_42_method_154_code (1 : Nat) (Option.some Jvm.ClassFile.FieldType.boolean), Jvm.Cond.code ({ cls := "java/lang/StringLatin1", name := "charAt", desc := "([BI)C" } : Jvm.MethodName) jdk_43_method_2_code (2 : Nat) (Option.some Jvm.ClassFile.FieldType.char), Jvm.Cond.code ({ cls := "java/lang/String", name := "checkIndex", desc := "(II)V" } : Jvm.MethodName) jdk_42_method_155_code (2 : Nat) (Option.none : Option Jvm.ClassFile.FieldType), Jvm.Cond.code ({ cls := "jdk/internal/util/Preconditions", name := "checkIndex", desc := "(IILjava/util/function/BiFunction;)I" } : Jvm.MethodName) jdk_41_method_11_code (3 : Nat) (Option.some Jvm.ClassFile.FieldType.int), Jvm.Cond.code ({ cls := "java/lang/StringUTF16", name := "toBytes", desc := "([CII)[B" } : Jvm.MethodName) jdk_52_method_14_code (5 : Nat) (Option.some (Jvm.ClassFile.FieldType.array Jvm.ClassFile.FieldType.byte)), Jvm.Cond.code ({ cls := "java/lang/StringUTF16", name := "newBytesFor", desc := "(I)[B" } : Jvm.MethodName) jdk_52_method_2_code (1 : Nat) (Option.some (Jvm.ClassFile.FieldType.array Jvm.ClassFile.FieldType.byte)), Jvm.Cond.code ({ cls := "java/lang/StringUTF16", name := "newBytesLength", desc := "(I)I" } : Jvm.MethodName) jdk_52_method_3_code (1 : Nat) (Option.some Jvm.ClassFile.FieldType.int), Jvm.Cond.code ({ cls := "java/lang/StringUTF16", name := "putChar", desc := "([BII)V" } : Jvm.MethodName) jdk_52_method_4_code (3 : Nat) (Option.none : Option Jvm.ClassFile.FieldType), Jvm.Cond.code ({ cls := "java/lang/StringUTF16", name := "getChar", desc := "([BI)C" } : Jvm.MethodName) jdk_52_method_5_code (2 : Nat) (Option.some Jvm.ClassFile.FieldType.char), Jvm.Cond.code ({ cls := "java/lang/StringUTF16", name := "charAt", desc := "([BI)C" } : Jvm.MethodName) jdk_52_method_83_code (2 : Nat) (Option.some Jvm.ClassFile.FieldType.char), Jvm.Cond.code ({ cls := "java/lang/StringUTF16", name := "checkIndex", desc := "(I[B)V" } : Jvm.MethodName) jdk_52_method_91_code (2 : Nat) (Option.none : Option Jvm.ClassFile.FieldType), Jvm.Cond.code ({ cls := "java/lang/StringUTF16", name := "length", desc := "([B)I" } : Jvm.MethodName) jdk_52_method_6_code (1 : Nat) (Option.some Jvm.ClassFile.FieldType.int)]
set_option maxRecDepth 65536 in
theorem codes_eq : words1.filter isCode = codes1 := rfl
theorem w_codes : ∀ c ∈ words1.filter isCode, c.before args0 about1 = true := by
  rw [codes_eq]
  intro c hc
  simp only [codes1, List.mem_cons, List.not_mem_nil, or_false] at hc
  rcases hc with rfl | rfl | rfl | rfl | rfl | rfl | rfl | rfl | rfl | rfl | rfl | rfl | rfl | rfl | rfl | rfl | rfl | rfl | rfl | rfl | rfl | rfl | rfl | rfl
  · exact w_c0
  · exact w_c1
  · exact w_c2
  · exact w_c3
  · exact w_c4
  · exact w_c5
  · exact w_c6
  · exact w_c7
  · exact w_c8
  · exact w_c9
  · exact w_c10
  · exact w_c11
  · exact w_c12
  · exact w_c13
  · exact w_c14
  · exact w_c15
  · exact w_c16
  · exact w_c17
  · exact w_c18
  · exact w_c19
  · exact w_c20
  · exact w_c21
  · exact w_c22
  · exact w_c23
set_option maxRecDepth 65536 in
theorem w_t1 : (words1.take 24).all (fun c => isCode c || c.before args0 about1) = true := by decide +kernel
set_option maxRecDepth 65536 in
theorem w_t2 : ((words1.drop 24).take 24).all (fun c => isCode c || c.before args0 about1) = true := by decide +kernel
set_option maxRecDepth 65536 in
theorem w_t3 : (((words1.drop 24).drop 24).take 24).all (fun c => isCode c || c.before args0 about1) = true := by decide +kernel
set_option maxRecDepth 65536 in
theorem w_t4 : ((((words1.drop 24).drop 24).drop 24).take 24).all (fun c => isCode c || c.before args0 about1) = true := by decide +kernel
set_option maxRecDepth 65536 in
theorem w_t5 : ((((words1.drop 24).drop 24).drop 24).drop 24).all (fun c => isCode c || c.before args0 about1) = true := by decide +kernel
theorem w_tables : (allAtoms (Jvm.Cond.code x code maxLocals ret :: tables_1)).before args0 about1 = true := by
  rw [allAtoms_all]
  show words1.all (fun c => c.before args0 about1) = true
  refine all_split ?_ w_codes
  rw [← List.take_append_drop 24 words1, List.all_append, w_t1, ← List.take_append_drop 24 (words1.drop 24), List.all_append, w_t2, ← List.take_append_drop 24 ((words1.drop 24).drop 24), List.all_append, w_t3, ← List.take_append_drop 24 (((words1.drop 24).drop 24).drop 24), List.all_append, w_t4, w_t5]
  rfl
set_option maxRecDepth 65536 in
theorem w_rest : rest_1_c.before args0 about1 = true := by decide +kernel
set_option maxRecDepth 65536 in
theorem w_case : (Jvm.Cond.and given_1 narrow_1).before args0 about1 = true := by decide +kernel
set_option maxRecDepth 65536 in
theorem w_consts : constsHeld consts_1 about1 := Jvm.Lit.constsHeldB_iff.mp (by decide +kernel)
theorem w_applies : (headSpec (Jvm.Cond.code x code maxLocals ret :: tables_1) room_1).applies x e0.platform about1 = true :=
  (Spec.applies_iff w_frames).mpr ⟨w_running, w_runnable, w_alone, w_named, w_hears, w_ripe, w_room, w_tables⟩
theorem atStart : AtStart classFile x code maxLocals ret World_1 tables_1 room_1 Calls_1 rest_1 Pre_1 launch0 p0 e0 about1 theMethod args0 below0 :=
  ⟨lists_1, trivial, launch0.admits_env _ _ _, launch0.least_env, fairChoices_fair.cas, fairChoices_fair.clock, w_frames, w_args, w_heap, w_applies, ⟨w_consts, trivial⟩, w_rest, w_case⟩
end start1
theorem witness_1 : WitnessClaimed_1 := ⟨start1.p0, start1.e0, start1.about1, start1.theMethod, start1.args0, start1.below0, start1.atStart⟩
end Jvm.Pilot.@@N@@
