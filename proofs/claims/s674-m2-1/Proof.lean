import JvmDerived
import JvmDerived.Pilot.@@N@@Statement
import JvmDerived.Pilot.@@N@@Code
set_option linter.unusedVariables false
set_option linter.unusedSimpArgs false
namespace Jvm.RoadKit
open Sem ClassFile Op Lib Jvm.Stand Jvm.Free Jvm.LawKit
section New
variable {p : Program} {l : Launch} {e : Env} {R : Room} {s : State} {m : MethodId} {args : Array Value} {below : List Frame} {meth : Method} {c : Code} {T : State} {locs : List Loc} {cells slots : Nat}
theorem retI (X : Stand p l e R s m args below meth c T locs cells slots) (hx : p.tables.exec = Jvm.exec) {pc : Nat} {Ls : Array Slot} {z : Int32} {rest : List Value} (hret : meth.sig.returnType = some .int) (hd : decode c.code pc = .ok (.ireturn, 1)) {fs : List Frame}
    (hl : ∀ (f : JFrame) (acts : List Action), f.method = m → f.locked = none → f.entered = [] → (doReturn e (T.setTop f) acts (some (.int z))).1 = T.setFrames fs) : Steps p.tables e below (T.setTop (mkF m pc Ls (.int z :: rest))) (T.setFrames fs) := by
  have hm' : T.vm.method? m = some meth := X.method'
  have hn : narrow .int (.int z) = .int z := rfl
  show Steps p.tables e below (T.setTop { method := m, pc := pc, locals := Ls, stack := _ :: rest, locked := none }) _
  jvm_step X.here [X.here.top, hx, hd, hm', hret, hn]
  first | (intro acts; rw [hl _ acts rfl rfl rfl]) | rw [hl _ _ rfl rfl rfl]
  exact Steps.refl _
end New
end Jvm.RoadKit
namespace Jvm.Pilot.@@N@@
open Jvm Jvm.ClassFile Sem Op Lib Jvm.Free Jvm.Stand Jvm.LawKit Jvm.RoadKit Bundle Jvm.Pilot.@@N@@.Jvm.D
theorem own_i1 {x a b : Int32} (h : x < a) (q : a ≤ b) : x < b := by
  simp only [Int32.lt_iff_toInt_lt, Int32.le_iff_toInt_le, ← Int32.toInt_inj] at *
  omega
theorem own_i2 {x a b : Int32} (h : x < a) (q : a ≤ b) : ¬ (b < x) := by
  simp only [Int32.lt_iff_toInt_lt, Int32.le_iff_toInt_le, ← Int32.toInt_inj] at *
  omega
theorem own_i3 {x a b : Int32} (h : x < a) (q : a ≤ b) : ¬ (x = b) := by
  simp only [Int32.lt_iff_toInt_lt, Int32.le_iff_toInt_le, ← Int32.toInt_inj] at *
  omega
theorem own_i4 {x a b : Int32} (h : ¬ (x < a)) (q : b ≤ a) : ¬ (x < b) := by
  simp only [Int32.lt_iff_toInt_lt, Int32.le_iff_toInt_le, ← Int32.toInt_inj] at *
  omega
theorem own_i5 {x a b : Int32} (h : ¬ (x < a)) (q : b < a) : ¬ (x = b) := by
  simp only [Int32.lt_iff_toInt_lt, Int32.le_iff_toInt_le, ← Int32.toInt_inj] at *
  omega
theorem own_i12 {x a b : Int32} (h : ¬ (x < a)) (q : b < a) : b < x := by
  simp only [Int32.lt_iff_toInt_lt, Int32.le_iff_toInt_le, ← Int32.toInt_inj] at *
  omega
theorem own_i6 {x a b : Int32} (h : a < x) (q : b ≤ a) : ¬ (x < b) := by
  simp only [Int32.lt_iff_toInt_lt, Int32.le_iff_toInt_le, ← Int32.toInt_inj] at *
  omega
theorem own_i7 {x a b : Int32} (h : a < x) (q : b ≤ a) : b < x := by
  simp only [Int32.lt_iff_toInt_lt, Int32.le_iff_toInt_le, ← Int32.toInt_inj] at *
  omega
theorem own_i8 {x a b : Int32} (h : a < x) (q : b ≤ a) : ¬ (x = b) := by
  simp only [Int32.lt_iff_toInt_lt, Int32.le_iff_toInt_le, ← Int32.toInt_inj] at *
  omega
theorem own_i9 {x a b : Int32} (h : ¬ (a < x)) (q : a ≤ b) : ¬ (b < x) := by
  simp only [Int32.lt_iff_toInt_lt, Int32.le_iff_toInt_le, ← Int32.toInt_inj] at *
  omega
theorem own_i10 {x a b : Int32} (h : ¬ (a < x)) (q : a < b) : ¬ (x = b) := by
  simp only [Int32.lt_iff_toInt_lt, Int32.le_iff_toInt_le, ← Int32.toInt_inj] at *
  omega
theorem own_i11 {x a b : Int32} (h : ¬ (a < x)) (q : a < b) : x < b := by
  simp only [Int32.lt_iff_toInt_lt, Int32.le_iff_toInt_le, ← Int32.toInt_inj] at *
  omega
def Sts (Z : State) (cst : Int32) (fv : Value) : Prop := Sta Z Z.heap "java/lang/String" "COMPACT_STRINGS" "Z" (.int cst) ∧ ¬ (cst = (0 : Int32)) ∧ Sta Z Z.heap "java/lang/StringUTF16" "$assertionsDisabled" "Z" (.int (1 : Int32)) ∧ Sta Z Z.heap "java/lang/StringUTF16" "HI_BYTE_SHIFT" "I" (.int (0 : Int32)) ∧ Sta Z Z.heap "java/lang/StringUTF16" "LO_BYTE_SHIFT" "I" (.int (8 : Int32)) ∧ Sta Z Z.heap "jdk/internal/util/Preconditions" "SIOOBE_FORMATTER" "Ljava/util/function/BiFunction;" fv ∧ fv.isRef = true
theorem own_narc (k : Int32) (h : 0 ≤ k.toInt ∧ k.toInt ≤ 65535) : nar .char k = k := by
  show k.toUInt32.toUInt16.toUInt32.toInt32 = k
  have c1 := c_i2c k
  exact Int32.toInt_inj.mp (by omega)
theorem own_narc2 (x : Int32) : 0 ≤ (nar .char x).toInt ∧ (nar .char x).toInt ≤ 65535 := by
  have c1 := c_i2c x
  exact ⟨c1.2.1, by have := c1.2.2; show (x.toUInt32.toUInt16.toUInt32.toInt32).toInt ≤ 65535; omega⟩

theorem own_lit (k : Int32) : True := trivial
theorem d21_0 : decode jdk_41_method_11_code 0 = .ok (.iload_n 0, 1) := by decide +kernel
theorem d21_1 : decode jdk_41_method_11_code 1 = .ok (.ifCond .lt 8, 3) := by decide +kernel
theorem d21_4 : decode jdk_41_method_11_code 4 = .ok (.iload_n 0, 1) := by decide +kernel
theorem d21_5 : decode jdk_41_method_11_code 5 = .ok (.iload_n 1, 1) := by decide +kernel
theorem d21_6 : decode jdk_41_method_11_code 6 = .ok (.if_icmp .lt 10, 3) := by decide +kernel
theorem d21_16 : decode jdk_41_method_11_code 16 = .ok (.iload_n 0, 1) := by decide +kernel
theorem d21_17 : decode jdk_41_method_11_code 17 = .ok (.ireturn, 1) := by decide +kernel
def Q21 (Z : State) (p0 : Int32) (p1 : Int32) (fv : Value) (h0 : Heap) (n0 : Nat) (v : Option Value) (h : Heap) (L : List Loc) : Prop := v = some (.int p0) ∧ Fr n0 L ∧ h = h0
theorem ef_rm21 (m : MethodId) (x0 : Int32) (x1 : Int32) (x2 : Value) (hcat2 : x2.category = 1) : entryFrame m #[(.int x0), (.int x1), x2] 3 = mkF m 0 #[.val (.int x0), .val (.int x1), .val x2] [] := by cases x2 <;> first | (rfl) | (exfalso; simp [Value.category] at hcat2)
theorem pnc_jdk_internal_util_Preconditions : plainName "jdk/internal/util/Preconditions" = true := by first | (simp [plainName, overriddenIn]; done) | decide +kernel
set_option maxRecDepth 65536 in
set_option maxHeartbeats 40000000 in
theorem rm21 (l : Launch) (Z : State) (a0 : Array Value) (hw : ∀ d ∈ tables_1, d.before a0 Z = true) (ws : List Jvm.Cond) (p0 : Int32) (p1 : Int32) (fv : Value) (h0 : Heap) (n0 : Nat) (Z0 : n0 ≤ h0.size) (hlo : ¬ (p0 < (0 : Int32))) (hhi : p0 < p1) (hfv : fv.isRef = true) :
  MetFree l (⟨"jdk/internal/util/Preconditions", "checkIndex", "(IILjava/util/function/BiFunction;)I"⟩ : MethodName) (head1 (Jvm.Cond.code (⟨"jdk/internal/util/Preconditions", "checkIndex", "(IILjava/util/function/BiFunction;)I"⟩ : MethodName) jdk_41_method_11_code 3 (some .int) :: ws) ({ frames := 0, cells := 0, slots := 0, locals := 0 } : Room)) (fun a U => a = #[(.int p0), (.int p1), fv] ∧ Z.Warmed39 U.vm ∧ U.heap = h0) (fun _ _ _ _ _ => True) (fun _ U o U' => ∃ v L, o = .returned v ∧ Q21 Z p0 p1 fv h0 n0 v U'.heap L ∧ FrameEnd U o U' L ({ frames := 0, cells := 0, slots := 0, locals := 0 } : Room).cells ({ frames := 0, cells := 0, slots := 0, locals := 0 } : Room).slots) := by
 refine MetFree.of_bodySF (plainFor_of_name pnc_jdk_internal_util_Preconditions) hisR ?_
 intro p e s m args below meth c s₁ Bd hml0 hP hK
 obtain ⟨rfl, hZ, hh⟩ := hP
 have hx := Bd.exec
 have hby := Bd.bytes
 have hml : c.maxLocals = 3 := hml0
 have hown : s.vm.findClass "jdk/internal/util/Preconditions" = some m.cls := findClass_of_methodNamed Bd.named
 have hnm := (name_of_methodNamed Bd.named Bd.method).1
 have X0 : Stand p l e ({ frames := 0, cells := 0, slots := 0, locals := 0 } : Room) s m #[(.int p0), (.int p1), fv] below meth c s₁ [] 0 0 := Stand.of_body Bd
 have e0 : s₁.heap = h0 := by rw [← hh, Bd.state]; rfl
 have N0 := Fr.nil n0
 have kp0 : Keep h0 h0 [] := Keep.refl _ _
 have G0 : ∀ t, Steps p.tables e below (s₁.setTop (mkF m 0 #[iv p0, iv p1, .val fv] [])) t → Steps p.tables e below (s₁.setTop (entryFrame m #[(.int p0), (.int p1), fv] 3)) t := fun t k => castTop (ef_rm21 m p0 p1 fv (Jvm.Free.XT.cat1 hfv)) k
 have G1 : ∀ t, Steps p.tables e below (s₁.setTop (mkF m 1 #[iv p0, iv p1, .val fv] [(.int p0)])) t → Steps p.tables e below (s₁.setTop (entryFrame m #[(.int p0), (.int p1), fv] 3)) t := by
  intro t kt
  refine G0 _ ?_
  refine XS.iloadN X0.here hx rfl (hb hby d21_0) rfl ?_
  exact kt
 have hc1_2 : ¬ (p0 < (0 : Int32)) := hlo
 have G3 : ∀ t, Steps p.tables e below (s₁.setTop (mkF m 6 #[iv p0, iv p1, .val fv] [(.int p1), (.int p0)])) t → Steps p.tables e below (s₁.setTop (entryFrame m #[(.int p0), (.int p1), fv] 3)) t := by
  intro t kt
  refine G1 _ ?_
  refine XS.ifNo X0.here hx rfl (hb hby d21_1) rfl ((if0 _ _).trans (flt hc1_2).1) ?_
  refine XS.iloadN X0.here hx rfl (hb hby d21_4) rfl ?_
  refine XS.iloadN X0.here hx rfl (hb hby d21_5) rfl ?_
  exact kt
 have hc6_4 : p0 < p1 := hhi
 obtain ⟨fs, hr, hrun, hended, hW, hsame⟩ := X0.leave (v := some (.int p0)) (fun h => by rw [Bd.returns] at h; cases h)
 refine ⟨_, _, G3 _ ?_, hrun, hended, _, _, rfl, ?_, ⟨_, rfl⟩, hW, hsame.mono (by decide) (by decide)⟩
 ·skip
  refine XS.icmpYes X0.here hx rfl (pc0 := 6) (pc' := 16) rfl (hb hby d21_6) rfl (tlt hc6_4).1 (by decide) (by decide) ?_
  refine XS.iloadN X0.here hx rfl (hb hby d21_16) rfl ?_
  exact retI X0 hx Bd.returns (hb hby d21_17) hr
 ·show Q21 Z p0 p1 fv h0 n0 _ s₁.heap _
  rw [e0]
  exact ⟨rfl, N0, rfl⟩
theorem d20_0 : decode jdk_42_method_155_code 0 = .ok (.iload_n 0, 1) := by decide +kernel
theorem d20_1 : decode jdk_42_method_155_code 1 = .ok (.iload_n 1, 1) := by decide +kernel
theorem d20_2 : decode jdk_42_method_155_code 2 = .ok (.getstatic 1053, 3) := by decide +kernel
theorem d20_5 : decode jdk_42_method_155_code 5 = .ok (.invokestatic 1059, 3) := by decide +kernel
theorem pd_0 : parseMethodDescriptor "(IILjava/util/function/BiFunction;)I" = some ⟨[.int, .int, (.object "java/util/function/BiFunction")], some .int⟩ := by decide +kernel
theorem d20_8 : decode jdk_42_method_155_code 8 = .ok (.pop, 1) := by decide +kernel
theorem d20_9 : decode jdk_42_method_155_code 9 = .ok (.return_, 1) := by decide +kernel
def Q20 (Z : State) (p0 : Int32) (p1 : Int32) (cst : Int32) (fv : Value) (h0 : Heap) (n0 : Nat) (v : Option Value) (h : Heap) (L : List Loc) : Prop := v = none ∧ Fr n0 L ∧ h = h0
theorem ef_rm20 (m : MethodId) (x0 : Int32) (x1 : Int32) : entryFrame m #[(.int x0), (.int x1)] 2 = mkF m 0 #[.val (.int x0), .val (.int x1)] [] := by first | (simp [entryFrame, mkF, argsToLocals, Value.category]; done) | rfl
theorem pnc_java_lang_String : plainName "java/lang/String" = true := by first | (simp [plainName, overriddenIn]; done) | decide +kernel
set_option maxRecDepth 65536 in
set_option maxHeartbeats 40000000 in
theorem rm20 (l : Launch) (Z : State) (a0 : Array Value) (hw : ∀ d ∈ tables_1, d.before a0 Z = true) (ws : List Jvm.Cond) (p0 : Int32) (p1 : Int32) (cst : Int32) (fv : Value) (h0 : Heap) (n0 : Nat) (Z0 : n0 ≤ h0.size) (O0 : Old Z n0 h0) (hlo : ¬ (p0 < (0 : Int32))) (hhi : p0 < p1) (SS : Sts Z cst fv) :
  MetFree l (⟨"java/lang/String", "checkIndex", "(II)V"⟩ : MethodName) (head1 (Jvm.Cond.code (⟨"java/lang/String", "checkIndex", "(II)V"⟩ : MethodName) jdk_42_method_155_code 2 none :: ws) ({ frames := 1, cells := 0, slots := 0, locals := 14 } : Room)) (fun a U => a = #[(.int p0), (.int p1)] ∧ Z.Warmed39 U.vm ∧ U.heap = h0) (fun _ _ _ _ _ => True) (fun _ U o U' => ∃ v L, o = .returned v ∧ Q20 Z p0 p1 cst fv h0 n0 v U'.heap L ∧ FrameEnd U o U' L ({ frames := 1, cells := 0, slots := 0, locals := 14 } : Room).cells ({ frames := 1, cells := 0, slots := 0, locals := 14 } : Room).slots) := by
 refine MetFree.of_bodySF (plainFor_of_name pnc_java_lang_String) hisR ?_
 intro p e s m args below meth c s₁ Bd hml0 hP hK
 obtain ⟨rfl, hZ, hh⟩ := hP
 have hx := Bd.exec
 have hby := Bd.bytes
 have hml : c.maxLocals = 2 := hml0
 have hown : s.vm.findClass "java/lang/String" = some m.cls := findClass_of_methodNamed Bd.named
 have hnm := (name_of_methodNamed Bd.named Bd.method).1
 have X0 : Stand p l e ({ frames := 1, cells := 0, slots := 0, locals := 14 } : Room) s m #[(.int p0), (.int p1)] below meth c s₁ [] 0 0 := Stand.of_body Bd
 have e0 : s₁.heap = h0 := by rw [← hh, Bd.state]; rfl
 have N0 := Fr.nil n0
 have kp0 : Keep h0 h0 [] := Keep.refl _ _
 have G0 : ∀ t, Steps p.tables e below (s₁.setTop (mkF m 0 #[iv p0, iv p1] [])) t → Steps p.tables e below (s₁.setTop (entryFrame m #[(.int p0), (.int p1)] 2)) t := fun t k => castTop (ef_rm20 m p0 p1) k
 obtain ⟨T1, X1, e1, st1⟩ := getS2 X0 hx hZ hown (host := "") (Or.inl (hw _ (List.mem_of_getElem? (i := 84) rfl))) Via.refl e0 (SS.2.2.2.2.2.1.ext O0.2) (g := (mkF m 2 #[iv p0, iv p1] [(.int p1), (.int p0)])) rfl (hb hby d20_2)
 obtain ⟨_, _, ⟨T2, L2, k2, n2⟩, -, X2, ⟨Lc2, hQ2, l2, y2, z2⟩, st2⟩ := Jvm.LawKit.callS X1 hx (y := (⟨"jdk/internal/util/Preconditions", "checkIndex", "(IILjava/util/function/BiFunction;)I"⟩ : MethodName)) hown (mvT hZ (hw _ (List.mem_of_getElem? (i := 86) rfl))) (mvT hZ (hw _ (List.mem_of_getElem? (i := 87) rfl))) (mvT hZ (hw _ (List.mem_of_getElem? (i := 85) rfl))) (mvT hZ (hw _ (List.mem_of_getElem? (i := 88) rfl))) (by decide) (backOf (W := 0) (rm21 l Z a0 hw [] p0 p1 fv  h0 n0 Z0 hlo hhi SS.2.2.2.2.2.2) hZ (hw _ (List.mem_of_getElem? (i := 88) rfl)) (hw _ (List.mem_of_getElem? (i := 85) rfl)) (by decide) (by decide)) (g := (mkF m 5 #[iv p0, iv p1] [fv, (.int p1), (.int p0)])) rfl (by rw [hml]; rfl) (argsL := [(.int p0), (.int p1), fv]) (rest := []) (lenOf pd_0 rfl) rfl (by show 2 * 0 + _ ≤ _; exact Nat.le_of_eq rfl) (hb hby d20_5) (fun _ _ => ⟨rfl, e1, (by decide : 0 + 0 ≤ _), (by decide : 0 + 0 ≤ _)⟩)
 dsimp only [Pt.U, Pt.locs, Pt.cells, Pt.slots] at X2 l2 y2 z2 st2 hQ2
 subst l2 y2 z2
 obtain ⟨rfl, N2q, eh2⟩ := hQ2
 have N2 := Fr.app N0 N2q
 obtain ⟨fs, hr, hrun, hended, hW, hsame⟩ := X2.leave (v := none) (fun _ => rfl)
 refine ⟨_, _, G0 _ ?_, hrun, hended, _, _, rfl, ?_, ⟨_, rfl⟩, hW, hsame.mono (by decide) (by decide)⟩
 ·skip
  refine XS.iloadN X0.here hx rfl (hb hby d20_0) rfl ?_
  refine XS.iloadN X0.here hx rfl (hb hby d20_1) rfl ?_
  refine st1 _ ?_
  refine st2 _ ?_
  refine XS.pop X2.here hx rfl (hb hby d20_8) rfl rfl ?_
  exact X2.returnOut hx Bd.returns (hb hby d20_9) hr
 ·show Q20 Z p0 p1 cst fv h0 n0 _ T2.heap _
  rw [eh2]
  exact ⟨rfl, N2, rfl⟩
theorem d16_0 : decode jdk_42_method_154_code 0 = .ok (.getstatic 38, 3) := by decide +kernel
theorem d16_3 : decode jdk_42_method_154_code 3 = .ok (.ifCond .eq 14, 3) := by decide +kernel
theorem d16_6 : decode jdk_42_method_154_code 6 = .ok (.aload_n 0, 1) := by decide +kernel
theorem d16_7 : decode jdk_42_method_154_code 7 = .ok (.getfield 15, 3) := by decide +kernel
theorem d16_10 : decode jdk_42_method_154_code 10 = .ok (.ifCond .ne 7, 3) := by decide +kernel
theorem d16_13 : decode jdk_42_method_154_code 13 = .ok (.iconst 1, 1) := by decide +kernel
theorem d16_14 : decode jdk_42_method_154_code 14 = .ok (.goto 4, 3) := by decide +kernel
theorem d16_18 : decode jdk_42_method_154_code 18 = .ok (.ireturn, 1) := by decide +kernel
theorem d16_17 : decode jdk_42_method_154_code 17 = .ok (.iconst 0, 1) := by decide +kernel
def fisLatin1 (cd : Int32) : Int32 := if cd = (0 : Int32) then ((1 : Int32)) else ((0 : Int32))
def Q16 (Z : State) (r0 : Addr) (cd : Int32) (cst : Int32) (fv : Value) (h0 : Heap) (n0 : Nat) (v : Option Value) (h : Heap) (L : List Loc) : Prop := v = some (.int (fisLatin1 cd)) ∧ Fr n0 L ∧ h = h0
theorem ef_rm16 (m : MethodId) (x0 : Addr) : entryFrame m #[(.ref x0)] 1 = mkF m 0 #[.val (.ref x0)] [] := by first | (simp [entryFrame, mkF, argsToLocals, Value.category]; done) | rfl
set_option maxRecDepth 65536 in
set_option maxHeartbeats 40000000 in
theorem rm16 (l : Launch) (Z : State) (a0 : Array Value) (hw : ∀ d ∈ tables_1, d.before a0 Z = true) (ws : List Jvm.Cond) (r0 : Addr) (cd : Int32) (cst : Int32) (fv : Value) (h0 : Heap) (n0 : Nat) (Z0 : n0 ≤ h0.size) (Fc : Fld Z h0 r0 "java/lang/String" "coder" "B" (.int cd)) (O0 : Old Z n0 h0) (SS : Sts Z cst fv) :
  MetFree l (⟨"java/lang/String", "isLatin1", "()Z"⟩ : MethodName) (head1 (Jvm.Cond.code (⟨"java/lang/String", "isLatin1", "()Z"⟩ : MethodName) jdk_42_method_154_code 1 (some .boolean) :: ws) ({ frames := 0, cells := 0, slots := 0, locals := 0 } : Room)) (fun a U => a = #[(.ref r0)] ∧ Z.Warmed39 U.vm ∧ U.heap = h0) (fun _ _ _ _ _ => True) (fun _ U o U' => ∃ v L, o = .returned v ∧ Q16 Z r0 cd cst fv h0 n0 v U'.heap L ∧ FrameEnd U o U' L ({ frames := 0, cells := 0, slots := 0, locals := 0 } : Room).cells ({ frames := 0, cells := 0, slots := 0, locals := 0 } : Room).slots) := by
 refine MetFree.of_bodySF (plainFor_of_name pnc_java_lang_String) hisR ?_
 intro p e s m args below meth c s₁ Bd hml0 hP hK
 obtain ⟨rfl, hZ, hh⟩ := hP
 have hx := Bd.exec
 have hby := Bd.bytes
 have hml : c.maxLocals = 1 := hml0
 have hown : s.vm.findClass "java/lang/String" = some m.cls := findClass_of_methodNamed Bd.named
 have hnm := (name_of_methodNamed Bd.named Bd.method).1
 have X0 : Stand p l e ({ frames := 0, cells := 0, slots := 0, locals := 0 } : Room) s m #[(.ref r0)] below meth c s₁ [] 0 0 := Stand.of_body Bd
 have e0 : s₁.heap = h0 := by rw [← hh, Bd.state]; rfl
 have N0 := Fr.nil n0
 have kp0 : Keep h0 h0 [] := Keep.refl _ _
 have G0 : ∀ t, Steps p.tables e below (s₁.setTop (mkF m 0 #[rv r0] [])) t → Steps p.tables e below (s₁.setTop (entryFrame m #[(.ref r0)] 1)) t := fun t k => castTop (ef_rm16 m r0) k
 obtain ⟨T1, X1, e1, st1⟩ := getS2 X0 hx hZ hown (host := "") (Or.inl (hw _ (List.mem_of_getElem? (i := 19) rfl))) Via.refl e0 (SS.1.ext O0.2) (g := (mkF m 0 #[rv r0] [])) rfl (hb hby d16_0)
 have G2 : ∀ t, Steps p.tables e below (T1.setTop (mkF m 3 #[rv r0] [(.int cst)])) t → Steps p.tables e below (s₁.setTop (entryFrame m #[(.ref r0)] 1)) t := by
  intro t kt
  refine G0 _ ?_
  refine st1 _ ?_
  exact kt
 have hc3_3 : ¬ (cst = (0 : Int32)) := SS.2.1
 obtain ⟨T4, X4, e4, st4⟩ := getF X1 hx hZ hown (host := "") (Or.inl (hw _ (List.mem_of_getElem? (i := 31) rfl))) Via.refl e1 Fc (g := (mkF m 7 #[rv r0] [(.ref r0)])) rfl rfl (hb hby d16_7)
 have G5 : ∀ t, Steps p.tables e below (T4.setTop (mkF m 10 #[rv r0] [(.int cd)])) t → Steps p.tables e below (s₁.setTop (entryFrame m #[(.ref r0)] 1)) t := by
  intro t kt
  refine G2 _ ?_
  refine XS.ifNo X1.here hx rfl (hb hby d16_3) rfl ((if0 _ _).trans (feq hc3_3).1) ?_
  refine XS.aloadN X1.here hx rfl (hb hby d16_6) rfl rfl ?_
  refine st4 _ ?_
  exact kt
 by_cases hc10_6 : cd = (0 : Int32)
 ·skip
  obtain ⟨fs, hr, hrun, hended, hW, hsame⟩ := X4.leave (v := some (.int (1 : Int32))) (fun h => by rw [Bd.returns] at h; cases h)
  refine ⟨_, _, G5 _ ?_, hrun, hended, _, _, rfl, ?_, ⟨_, rfl⟩, hW, hsame.mono (by decide) (by decide)⟩
  ·skip
   refine XS.ifNo X4.here hx rfl (hb hby d16_10) rfl ((if0 _ _).trans (teq hc10_6).2) ?_
   refine XS.iconst X4.here hx rfl (hb hby d16_13) ?_
   refine XS.goto X4.here hx rfl (pc0 := 14) (pc' := 18) rfl (hb hby d16_14) (by decide) (by decide) ?_
   exact retN X4 hx (t := .boolean) Bd.returns (by simp) (hb hby d16_18) hr
  ·show Q16 Z r0 cd cst fv h0 n0 _ T4.heap _
   rw [e4]
   exact ⟨by rw [fisLatin1, if_pos hc10_6], N0, rfl⟩
 ·skip
  obtain ⟨fs, hr, hrun, hended, hW, hsame⟩ := X4.leave (v := some (.int (0 : Int32))) (fun h => by rw [Bd.returns] at h; cases h)
  refine ⟨_, _, G5 _ ?_, hrun, hended, _, _, rfl, ?_, ⟨_, rfl⟩, hW, hsame.mono (by decide) (by decide)⟩
  ·skip
   refine XS.ifYes X4.here hx rfl (pc0 := 10) (pc' := 17) rfl (hb hby d16_10) rfl ((if0 _ _).trans (feq hc10_6).2) (by decide) (by decide) ?_
   refine XS.iconst X4.here hx rfl (hb hby d16_17) ?_
   exact retN X4 hx (t := .boolean) Bd.returns (by simp) (hb hby d16_18) hr
  ·show Q16 Z r0 cd cst fv h0 n0 _ T4.heap _
   rw [e4]
   exact ⟨by rw [fisLatin1, if_neg hc10_6], N0, rfl⟩
theorem d19_0 : decode jdk_52_method_6_code 0 = .ok (.aload_n 0, 1) := by decide +kernel
theorem d19_1 : decode jdk_52_method_6_code 1 = .ok (.arraylength, 1) := by decide +kernel
theorem d19_2 : decode jdk_52_method_6_code 2 = .ok (.iconst 1, 1) := by decide +kernel
theorem d19_3 : decode jdk_52_method_6_code 3 = .ok (.ishr, 1) := by decide +kernel
theorem d19_4 : decode jdk_52_method_6_code 4 = .ok (.ireturn, 1) := by decide +kernel
def Q19 (Z : State) (r0 : Addr) (kk : ClassId) (nn : Int32) (vs : List Value) (cst : Int32) (fv : Value) (h0 : Heap) (n0 : Nat) (v : Option Value) (h : Heap) (L : List Loc) : Prop := v = some (.int (nn >>> ((1 : Int32) &&& 31))) ∧ Fr n0 L ∧ h = h0
theorem ef_rm19 (m : MethodId) (x0 : Addr) : entryFrame m #[(.ref x0)] 1 = mkF m 0 #[.val (.ref x0)] [] := by first | (simp [entryFrame, mkF, argsToLocals, Value.category]; done) | rfl
theorem pnc_java_lang_StringUTF16 : plainName "java/lang/StringUTF16" = true := by first | (simp [plainName, overriddenIn]; done) | decide +kernel
set_option maxRecDepth 65536 in
set_option maxHeartbeats 40000000 in
theorem rm19 (l : Launch) (Z : State) (a0 : Array Value) (hw : ∀ d ∈ tables_1, d.before a0 Z = true) (ws : List Jvm.Cond) (r0 : Addr) (kk : ClassId) (nn : Int32) (vs : List Value) (cst : Int32) (fv : Value) (h0 : Heap) (n0 : Nat) (Z0 : n0 ≤ h0.size) (V0 : Arv Z h0 r0 kk .byte nn vs (.int (0 : Int32))) (O0 : Old Z n0 h0) (SS : Sts Z cst fv) :
  MetFree l (⟨"java/lang/StringUTF16", "length", "([B)I"⟩ : MethodName) (head1 (Jvm.Cond.code (⟨"java/lang/StringUTF16", "length", "([B)I"⟩ : MethodName) jdk_52_method_6_code 1 (some .int) :: ws) ({ frames := 0, cells := 0, slots := 0, locals := 0 } : Room)) (fun a U => a = #[(.ref r0)] ∧ Z.Warmed39 U.vm ∧ U.heap = h0) (fun _ _ _ _ _ => True) (fun _ U o U' => ∃ v L, o = .returned v ∧ Q19 Z r0 kk nn vs cst fv h0 n0 v U'.heap L ∧ FrameEnd U o U' L ({ frames := 0, cells := 0, slots := 0, locals := 0 } : Room).cells ({ frames := 0, cells := 0, slots := 0, locals := 0 } : Room).slots) := by
 refine MetFree.of_bodySF (plainFor_of_name pnc_java_lang_StringUTF16) hisR ?_
 intro p e s m args below meth c s₁ Bd hml0 hP hK
 obtain ⟨rfl, hZ, hh⟩ := hP
 have hx := Bd.exec
 have hby := Bd.bytes
 have hml : c.maxLocals = 1 := hml0
 have hown : s.vm.findClass "java/lang/StringUTF16" = some m.cls := findClass_of_methodNamed Bd.named
 have hnm := (name_of_methodNamed Bd.named Bd.method).1
 have X0 : Stand p l e ({ frames := 0, cells := 0, slots := 0, locals := 0 } : Room) s m #[(.ref r0)] below meth c s₁ [] 0 0 := Stand.of_body Bd
 have e0 : s₁.heap = h0 := by rw [← hh, Bd.state]; rfl
 have N0 := Fr.nil n0
 have kp0 : Keep h0 h0 [] := Keep.refl _ _
 have G0 : ∀ t, Steps p.tables e below (s₁.setTop (mkF m 0 #[rv r0] [])) t → Steps p.tables e below (s₁.setTop (entryFrame m #[(.ref r0)] 1)) t := fun t k => castTop (ef_rm19 m r0) k
 obtain ⟨cl1, Ar1, q1, S1, M1, H1, G1⟩ := id V0
 obtain ⟨fs, hr, hrun, hended, hW, hsame⟩ := X0.leave (v := some (.int (nn >>> ((1 : Int32) &&& 31)))) (fun h => by rw [Bd.returns] at h; cases h)
 refine ⟨_, _, G0 _ ?_, hrun, hended, _, _, rfl, ?_, ⟨_, rfl⟩, hW, hsame.mono (by decide) (by decide)⟩
 ·skip
  refine XS.aloadN X0.here hx rfl (hb hby d19_0) rfl rfl ?_
  refine X0.arraylength hx (by rw [e0]; exact Ar1.1) (State.isArrayOf_alike hZ.alike Ar1.2.1) (g := (mkF m 1 #[rv r0] [(.ref r0)])) rfl rfl (hb hby d19_1) _ ?_
  rw [len_of S1 M1]
  refine XS.iconst X0.here hx rfl (hb hby d19_2) ?_
  refine XS.ishr X0.here hx rfl (hb hby d19_3) rfl ?_
  exact retI X0 hx Bd.returns (hb hby d19_4) hr
 ·show Q19 Z r0 kk nn vs cst fv h0 n0 _ s₁.heap _
  rw [e0]
  exact ⟨rfl, N0, rfl⟩
theorem d13_0 : decode jdk_52_method_5_code 0 = .ok (.getstatic 44, 3) := by decide +kernel
theorem d13_3 : decode jdk_52_method_5_code 3 = .ok (.ifCond .ne 25, 3) := by decide +kernel
theorem d13_28 : decode jdk_52_method_5_code 28 = .ok (.iload_n 1, 1) := by decide +kernel
theorem d13_29 : decode jdk_52_method_5_code 29 = .ok (.iconst 1, 1) := by decide +kernel
theorem d13_30 : decode jdk_52_method_5_code 30 = .ok (.ishl, 1) := by decide +kernel
theorem d13_31 : decode jdk_52_method_5_code 31 = .ok (.istore_n 1, 1) := by decide +kernel
theorem d13_32 : decode jdk_52_method_5_code 32 = .ok (.aload_n 0, 1) := by decide +kernel
theorem d13_33 : decode jdk_52_method_5_code 33 = .ok (.iload_n 1, 1) := by decide +kernel
theorem d13_34 : decode jdk_52_method_5_code 34 = .ok (.iinc 1 1, 3) := by decide +kernel
theorem d13_37 : decode jdk_52_method_5_code 37 = .ok (.baload, 1) := by decide +kernel
theorem d13_38 : decode jdk_52_method_5_code 38 = .ok (.sipush 255, 3) := by decide +kernel
theorem d13_41 : decode jdk_52_method_5_code 41 = .ok (.iand, 1) := by decide +kernel
theorem d13_42 : decode jdk_52_method_5_code 42 = .ok (.getstatic 59, 3) := by decide +kernel
theorem d13_45 : decode jdk_52_method_5_code 45 = .ok (.ishl, 1) := by decide +kernel
theorem d13_46 : decode jdk_52_method_5_code 46 = .ok (.aload_n 0, 1) := by decide +kernel
theorem d13_47 : decode jdk_52_method_5_code 47 = .ok (.iload_n 1, 1) := by decide +kernel
theorem d13_48 : decode jdk_52_method_5_code 48 = .ok (.baload, 1) := by decide +kernel
theorem d13_49 : decode jdk_52_method_5_code 49 = .ok (.sipush 255, 3) := by decide +kernel
theorem d13_52 : decode jdk_52_method_5_code 52 = .ok (.iand, 1) := by decide +kernel
theorem d13_53 : decode jdk_52_method_5_code 53 = .ok (.getstatic 63, 3) := by decide +kernel
theorem d13_56 : decode jdk_52_method_5_code 56 = .ok (.ishl, 1) := by decide +kernel
theorem d13_57 : decode jdk_52_method_5_code 57 = .ok (.ior, 1) := by decide +kernel
theorem d13_58 : decode jdk_52_method_5_code 58 = .ok (.i2c, 1) := by decide +kernel
theorem d13_59 : decode jdk_52_method_5_code 59 = .ok (.ireturn, 1) := by decide +kernel
def fget (x : Int32) (y : Int32) : Int32 := nar .char ((((x &&& (255 : Int32)) <<< ((0 : Int32) &&& 31)) ||| ((y &&& (255 : Int32)) <<< ((8 : Int32) &&& 31))).toUInt32.toUInt16.toUInt32.toInt32)
def Q13 (Z : State) (r0 : Addr) (p1 : Int32) (kk : ClassId) (nn : Int32) (vs : List Value) (x y : Int32) (cst : Int32) (fv : Value) (h0 : Heap) (n0 : Nat) (v : Option Value) (h : Heap) (L : List Loc) : Prop := v = some (.int (fget x y)) ∧ Fr n0 L ∧ h = h0
theorem ef_rm13 (m : MethodId) (x0 : Addr) (x1 : Int32) : entryFrame m #[(.ref x0), (.int x1)] 2 = mkF m 0 #[.val (.ref x0), .val (.int x1)] [] := by first | (simp [entryFrame, mkF, argsToLocals, Value.category]; done) | rfl
set_option maxRecDepth 65536 in
set_option maxHeartbeats 40000000 in
theorem rm13 (l : Launch) (Z : State) (a0 : Array Value) (hw : ∀ d ∈ tables_1, d.before a0 Z = true) (ws : List Jvm.Cond) (r0 : Addr) (p1 : Int32) (kk : ClassId) (nn : Int32) (vs : List Value) (x y : Int32) (cst : Int32) (fv : Value) (h0 : Heap) (n0 : Nat) (Z0 : n0 ≤ h0.size) (V0 : Arv Z h0 r0 kk .byte nn vs (.int (0 : Int32))) (O0 : Old Z n0 h0) (i0 : ¬ (p1 <<< ((1 : Int32) &&& 31)) < 0 ∧ (p1 <<< ((1 : Int32) &&& 31)) < nn) (i1 : ¬ ((p1 <<< ((1 : Int32) &&& 31)) + (1 : Int32)) < 0 ∧ ((p1 <<< ((1 : Int32) &&& 31)) + (1 : Int32)) < nn) (g0 : vs.getD ((p1 <<< ((1 : Int32) &&& 31))).toNatClampNeg (.int (0 : Int32)) = .int x) (g1 : vs.getD (((p1 <<< ((1 : Int32) &&& 31)) + (1 : Int32))).toNatClampNeg (.int (0 : Int32)) = .int y) (SS : Sts Z cst fv) :
  MetFree l (⟨"java/lang/StringUTF16", "getChar", "([BI)C"⟩ : MethodName) (head1 (Jvm.Cond.code (⟨"java/lang/StringUTF16", "getChar", "([BI)C"⟩ : MethodName) jdk_52_method_5_code 2 (some .char) :: ws) ({ frames := 0, cells := 0, slots := 0, locals := 0 } : Room)) (fun a U => a = #[(.ref r0), (.int p1)] ∧ Z.Warmed39 U.vm ∧ U.heap = h0) (fun _ _ _ _ _ => True) (fun _ U o U' => ∃ v L, o = .returned v ∧ Q13 Z r0 p1 kk nn vs x y cst fv h0 n0 v U'.heap L ∧ FrameEnd U o U' L ({ frames := 0, cells := 0, slots := 0, locals := 0 } : Room).cells ({ frames := 0, cells := 0, slots := 0, locals := 0 } : Room).slots) := by
 refine MetFree.of_bodySF (plainFor_of_name pnc_java_lang_StringUTF16) hisR ?_
 intro p e s m args below meth c s₁ Bd hml0 hP hK
 obtain ⟨rfl, hZ, hh⟩ := hP
 have hx := Bd.exec
 have hby := Bd.bytes
 have hml : c.maxLocals = 2 := hml0
 have hown : s.vm.findClass "java/lang/StringUTF16" = some m.cls := findClass_of_methodNamed Bd.named
 have hnm := (name_of_methodNamed Bd.named Bd.method).1
 have X0 : Stand p l e ({ frames := 0, cells := 0, slots := 0, locals := 0 } : Room) s m #[(.ref r0), (.int p1)] below meth c s₁ [] 0 0 := Stand.of_body Bd
 have e0 : s₁.heap = h0 := by rw [← hh, Bd.state]; rfl
 have N0 := Fr.nil n0
 have kp0 : Keep h0 h0 [] := Keep.refl _ _
 have G0 : ∀ t, Steps p.tables e below (s₁.setTop (mkF m 0 #[rv r0, iv p1] [])) t → Steps p.tables e below (s₁.setTop (entryFrame m #[(.ref r0), (.int p1)] 2)) t := fun t k => castTop (ef_rm13 m r0 p1) k
 obtain ⟨cl, Ar, qk, Sz, Mz, Hz, Gz⟩ := id V0
 have hin0 : ¬ ((p1 <<< ((1 : Int32) &&& 31)) < 0 ∨ cl.slots.size ≤ ((p1 <<< ((1 : Int32) &&& 31))).toNatClampNeg) := inb_of Sz i0
 have hin1 : ¬ (((p1 <<< ((1 : Int32) &&& 31)) + (1 : Int32)) < 0 ∨ cl.slots.size ≤ (((p1 <<< ((1 : Int32) &&& 31)) + (1 : Int32))).toNatClampNeg) := inb_of Sz i1
 have hat0 : cl.slots[((p1 <<< ((1 : Int32) &&& 31))).toNatClampNeg]? = some (.int x) := Hz.at hin0 g0
 have hat1 : cl.slots[(((p1 <<< ((1 : Int32) &&& 31)) + (1 : Int32))).toNatClampNeg]? = some (.int y) := Hz.at hin1 g1
 obtain ⟨T1, X1, e1, st1⟩ := getS2 X0 hx hZ hown (host := "") (Or.inl (hw _ (List.mem_of_getElem? (i := 53) rfl))) Via.refl e0 (SS.2.2.1.ext O0.2) (g := (mkF m 0 #[rv r0, iv p1] [])) rfl (hb hby d13_0)
 have G2 : ∀ t, Steps p.tables e below (T1.setTop (mkF m 3 #[rv r0, iv p1] [(.int (1 : Int32))])) t → Steps p.tables e below (s₁.setTop (entryFrame m #[(.ref r0), (.int p1)] 2)) t := by
  intro t kt
  refine G0 _ ?_
  refine st1 _ ?_
  exact kt
 obtain ⟨T3, X3, e3, st3⟩ := getS2 X1 hx hZ hown (host := "") (Or.inl (hw _ (List.mem_of_getElem? (i := 54) rfl))) Via.refl e1 (SS.2.2.2.1.ext O0.2) (g := (mkF m 42 #[rv r0, iv ((p1 <<< ((1 : Int32) &&& 31)) + (1 : Int32))] [(.int (x &&& (255 : Int32)))])) rfl (hb hby d13_42)
 obtain ⟨T4, X4, e4, st4⟩ := getS2 X3 hx hZ hown (host := "") (Or.inl (hw _ (List.mem_of_getElem? (i := 55) rfl))) Via.refl e3 (SS.2.2.2.2.1.ext O0.2) (g := (mkF m 53 #[rv r0, iv ((p1 <<< ((1 : Int32) &&& 31)) + (1 : Int32))] [(.int (y &&& (255 : Int32))), (.int ((x &&& (255 : Int32)) <<< ((0 : Int32) &&& 31)))])) rfl (hb hby d13_53)
 obtain ⟨fs, hr, hrun, hended, hW, hsame⟩ := X4.leave (v := some (.int (nar .char ((((x &&& (255 : Int32)) <<< ((0 : Int32) &&& 31)) ||| ((y &&& (255 : Int32)) <<< ((8 : Int32) &&& 31))).toUInt32.toUInt16.toUInt32.toInt32)))) (fun h => by rw [Bd.returns] at h; cases h)
 refine ⟨_, _, G2 _ ?_, hrun, hended, _, _, rfl, ?_, ⟨_, rfl⟩, hW, hsame.mono (by decide) (by decide)⟩
 ·skip
  refine XS.ifYes X1.here hx rfl (pc0 := 3) (pc' := 28) rfl (hb hby d13_3) rfl ((if0 _ _).trans (feq (by decide)).2) (by decide) (by decide) ?_
  refine XS.iloadN X1.here hx rfl (hb hby d13_28) rfl ?_
  refine XS.iconst X1.here hx rfl (hb hby d13_29) ?_
  refine XS.ishl X1.here hx rfl (hb hby d13_30) rfl ?_
  refine XS.istoreN X1.here hx rfl (hb hby d13_31) rfl (l' := #[rv r0, iv (p1 <<< ((1 : Int32) &&& 31))]) rfl ?_
  refine XS.aloadN X1.here hx rfl (hb hby d13_32) rfl rfl ?_
  refine XS.iloadN X1.here hx rfl (hb hby d13_33) rfl ?_
  refine XS.iinc X1.here hx rfl (hb hby d13_34) rfl (l' := #[rv r0, iv ((p1 <<< ((1 : Int32) &&& 31)) + (1 : Int32))]) rfl ?_
  refine X1.baloadBytes hx (j := (p1 <<< ((1 : Int32) &&& 31))) (v := (.int x)) (by rw [e1]; exact Ar.1) (State.isArrayOf_alike hZ.alike Ar.2.1) Ar.2.2 hin0 hat0 (g := (mkF m 37 #[rv r0, iv ((p1 <<< ((1 : Int32) &&& 31)) + (1 : Int32))] [(.int (p1 <<< ((1 : Int32) &&& 31))), (.ref r0)])) rfl rfl (hb hby d13_37) _ ?_
  refine XS.sipush X1.here hx rfl (hb hby d13_38) ?_
  refine XS.iand X1.here hx rfl (hb hby d13_41) rfl ?_
  refine st3 _ ?_
  refine XS.ishl X3.here hx rfl (hb hby d13_45) rfl ?_
  refine XS.aloadN X3.here hx rfl (hb hby d13_46) rfl rfl ?_
  refine XS.iloadN X3.here hx rfl (hb hby d13_47) rfl ?_
  refine X3.baloadBytes hx (j := ((p1 <<< ((1 : Int32) &&& 31)) + (1 : Int32))) (v := (.int y)) (by rw [e3]; exact Ar.1) (State.isArrayOf_alike hZ.alike Ar.2.1) Ar.2.2 hin1 hat1 (g := (mkF m 48 #[rv r0, iv ((p1 <<< ((1 : Int32) &&& 31)) + (1 : Int32))] [(.int ((p1 <<< ((1 : Int32) &&& 31)) + (1 : Int32))), (.ref r0), (.int ((x &&& (255 : Int32)) <<< ((0 : Int32) &&& 31)))])) rfl rfl (hb hby d13_48) _ ?_
  refine XS.sipush X3.here hx rfl (hb hby d13_49) ?_
  refine XS.iand X3.here hx rfl (hb hby d13_52) rfl ?_
  refine st4 _ ?_
  show Steps p.tables e below (T4.setTop (mkF m 56 #[rv r0, iv ((p1 <<< ((1 : Int32) &&& 31)) + (1 : Int32))] [(.int (8 : Int32)), (.int (y &&& (255 : Int32))), (.int ((x &&& (255 : Int32)) <<< ((0 : Int32) &&& 31)))])) _
  refine XS.ishl X4.here hx rfl (hb hby d13_56) rfl ?_
  refine XS.ior X4.here hx rfl (hb hby d13_57) rfl ?_
  refine XS.i2c X4.here hx rfl (hb hby d13_58) rfl ?_
  exact retN X4 hx (t := .char) Bd.returns (by simp) (hb hby d13_59) hr
 ·show Q13 Z r0 p1 kk nn vs x y cst fv h0 n0 _ T4.heap _
  rw [e4]
  exact ⟨by rw [fget], N0, rfl⟩
theorem d12_0 : decode jdk_52_method_4_code 0 = .ok (.getstatic 44, 3) := by decide +kernel
theorem d12_3 : decode jdk_52_method_4_code 3 = .ok (.ifCond .ne 25, 3) := by decide +kernel
theorem d12_28 : decode jdk_52_method_4_code 28 = .ok (.iload_n 1, 1) := by decide +kernel
theorem d12_29 : decode jdk_52_method_4_code 29 = .ok (.iconst 1, 1) := by decide +kernel
theorem d12_30 : decode jdk_52_method_4_code 30 = .ok (.ishl, 1) := by decide +kernel
theorem d12_31 : decode jdk_52_method_4_code 31 = .ok (.istore_n 1, 1) := by decide +kernel
theorem d12_32 : decode jdk_52_method_4_code 32 = .ok (.aload_n 0, 1) := by decide +kernel
theorem d12_33 : decode jdk_52_method_4_code 33 = .ok (.iload_n 1, 1) := by decide +kernel
theorem d12_34 : decode jdk_52_method_4_code 34 = .ok (.iinc 1 1, 3) := by decide +kernel
theorem d12_37 : decode jdk_52_method_4_code 37 = .ok (.iload_n 2, 1) := by decide +kernel
theorem d12_38 : decode jdk_52_method_4_code 38 = .ok (.getstatic 59, 3) := by decide +kernel
theorem d12_41 : decode jdk_52_method_4_code 41 = .ok (.ishr, 1) := by decide +kernel
theorem d12_42 : decode jdk_52_method_4_code 42 = .ok (.i2b, 1) := by decide +kernel
theorem d12_43 : decode jdk_52_method_4_code 43 = .ok (.bastore, 1) := by decide +kernel
theorem d12_44 : decode jdk_52_method_4_code 44 = .ok (.aload_n 0, 1) := by decide +kernel
theorem d12_45 : decode jdk_52_method_4_code 45 = .ok (.iload_n 1, 1) := by decide +kernel
theorem d12_46 : decode jdk_52_method_4_code 46 = .ok (.iload_n 2, 1) := by decide +kernel
theorem d12_47 : decode jdk_52_method_4_code 47 = .ok (.getstatic 63, 3) := by decide +kernel
theorem d12_50 : decode jdk_52_method_4_code 50 = .ok (.ishr, 1) := by decide +kernel
theorem d12_51 : decode jdk_52_method_4_code 51 = .ok (.i2b, 1) := by decide +kernel
theorem d12_52 : decode jdk_52_method_4_code 52 = .ok (.bastore, 1) := by decide +kernel
theorem d12_53 : decode jdk_52_method_4_code 53 = .ok (.return_, 1) := by decide +kernel
def Q12 (Z : State) (r0 : Addr) (p1 : Int32) (p2 : Int32) (kk : ClassId) (nn : Int32) (vs : List Value) (cst : Int32) (fv : Value) (h0 : Heap) (n0 : Nat) (v : Option Value) (h : Heap) (L : List Loc) : Prop := v = none ∧ Fr n0 L ∧ Keep h0 h [r0] ∧ Arv Z h r0 kk .byte nn ((vs.set ((p1 <<< ((1 : Int32) &&& 31))).toNatClampNeg (.int (nar .byte ((p2 >>> ((0 : Int32) &&& 31)).toInt8.toInt32)))).set (((p1 <<< ((1 : Int32) &&& 31)) + (1 : Int32))).toNatClampNeg (.int (nar .byte ((p2 >>> ((8 : Int32) &&& 31)).toInt8.toInt32)))) (.int (0 : Int32))
theorem ef_rm12 (m : MethodId) (x0 : Addr) (x1 : Int32) (x2 : Int32) : entryFrame m #[(.ref x0), (.int x1), (.int x2)] 3 = mkF m 0 #[.val (.ref x0), .val (.int x1), .val (.int x2)] [] := by first | (simp [entryFrame, mkF, argsToLocals, Value.category]; done) | rfl
set_option maxRecDepth 65536 in
set_option maxHeartbeats 40000000 in
theorem rm12 (l : Launch) (Z : State) (a0 : Array Value) (hw : ∀ d ∈ tables_1, d.before a0 Z = true) (ws : List Jvm.Cond) (r0 : Addr) (p1 : Int32) (p2 : Int32) (kk : ClassId) (nn : Int32) (vs : List Value) (cst : Int32) (fv : Value) (h0 : Heap) (n0 : Nat) (Z0 : n0 ≤ h0.size) (V0 : Arv Z h0 r0 kk .byte nn vs (.int (0 : Int32))) (O0 : Old Z n0 h0) (i0 : ¬ (p1 <<< ((1 : Int32) &&& 31)) < 0 ∧ (p1 <<< ((1 : Int32) &&& 31)) < nn) (i1 : ¬ ((p1 <<< ((1 : Int32) &&& 31)) + (1 : Int32)) < 0 ∧ ((p1 <<< ((1 : Int32) &&& 31)) + (1 : Int32)) < nn) (l0 : ((p1 <<< ((1 : Int32) &&& 31))).toNatClampNeg < vs.length) (l1 : (((p1 <<< ((1 : Int32) &&& 31)) + (1 : Int32))).toNatClampNeg < vs.length) (g_r0 : n0 ≤ r0) (SS : Sts Z cst fv) :
  MetFree l (⟨"java/lang/StringUTF16", "putChar", "([BII)V"⟩ : MethodName) (head1 (Jvm.Cond.code (⟨"java/lang/StringUTF16", "putChar", "([BII)V"⟩ : MethodName) jdk_52_method_4_code 3 none :: ws) ({ frames := 0, cells := 0, slots := 0, locals := 0 } : Room)) (fun a U => a = #[(.ref r0), (.int p1), (.int p2)] ∧ Z.Warmed39 U.vm ∧ U.heap = h0) (fun _ _ _ _ _ => True) (fun _ U o U' => ∃ v L, o = .returned v ∧ Q12 Z r0 p1 p2 kk nn vs cst fv h0 n0 v U'.heap L ∧ FrameEnd U o U' L ({ frames := 0, cells := 0, slots := 0, locals := 0 } : Room).cells ({ frames := 0, cells := 0, slots := 0, locals := 0 } : Room).slots) := by
 refine MetFree.of_bodySF (plainFor_of_name pnc_java_lang_StringUTF16) hisR ?_
 intro p e s m args below meth c s₁ Bd hml0 hP hK
 obtain ⟨rfl, hZ, hh⟩ := hP
 have hx := Bd.exec
 have hby := Bd.bytes
 have hml : c.maxLocals = 3 := hml0
 have hown : s.vm.findClass "java/lang/StringUTF16" = some m.cls := findClass_of_methodNamed Bd.named
 have hnm := (name_of_methodNamed Bd.named Bd.method).1
 have X0 : Stand p l e ({ frames := 0, cells := 0, slots := 0, locals := 0 } : Room) s m #[(.ref r0), (.int p1), (.int p2)] below meth c s₁ [] 0 0 := Stand.of_body Bd
 have e0 : s₁.heap = h0 := by rw [← hh, Bd.state]; rfl
 have N0 := Fr.nil n0
 have kp0 : Keep h0 h0 [r0] := Keep.refl _ _
 have G0 : ∀ t, Steps p.tables e below (s₁.setTop (mkF m 0 #[rv r0, iv p1, iv p2] [])) t → Steps p.tables e below (s₁.setTop (entryFrame m #[(.ref r0), (.int p1), (.int p2)] 3)) t := fun t k => castTop (ef_rm12 m r0 p1 p2) k
 obtain ⟨T1, X1, e1, st1⟩ := getS2 X0 hx hZ hown (host := "") (Or.inl (hw _ (List.mem_of_getElem? (i := 53) rfl))) Via.refl e0 (SS.2.2.1.ext O0.2) (g := (mkF m 0 #[rv r0, iv p1, iv p2] [])) rfl (hb hby d12_0)
 have G2 : ∀ t, Steps p.tables e below (T1.setTop (mkF m 3 #[rv r0, iv p1, iv p2] [(.int (1 : Int32))])) t → Steps p.tables e below (s₁.setTop (entryFrame m #[(.ref r0), (.int p1), (.int p2)] 3)) t := by
  intro t kt
  refine G0 _ ?_
  refine st1 _ ?_
  exact kt
 obtain ⟨T3, X3, e3, st3⟩ := getS2 X1 hx hZ hown (host := "") (Or.inl (hw _ (List.mem_of_getElem? (i := 54) rfl))) Via.refl e1 (SS.2.2.2.1.ext O0.2) (g := (mkF m 38 #[rv r0, iv ((p1 <<< ((1 : Int32) &&& 31)) + (1 : Int32)), iv p2] [(.int p2), (.int (p1 <<< ((1 : Int32) &&& 31))), (.ref r0)])) rfl (hb hby d12_38)
 obtain ⟨cl4, Ar4, q4, S4, M4, H4, G4⟩ := id V0
 have hin4 : ¬ ((p1 <<< ((1 : Int32) &&& 31)) < 0 ∨ cl4.slots.size ≤ ((p1 <<< ((1 : Int32) &&& 31))).toNatClampNeg) := inb_of S4 i0
 obtain ⟨T5, h5, X5, e5, W5, st5⟩ := stB X3 hx hZ e3 Ar4 (j := (p1 <<< ((1 : Int32) &&& 31))) hin4 (g := (mkF m 43 #[rv r0, iv ((p1 <<< ((1 : Int32) &&& 31)) + (1 : Int32)), iv p2] [(.int ((p2 >>> ((0 : Int32) &&& 31)).toInt8.toInt32)), (.int (p1 <<< ((1 : Int32) &&& 31))), (.ref r0)])) rfl rfl (hb hby d12_43)
 have fa6 : Old Z n0 h5 := O0.wr W5 g_r0
 have z7 : n0 ≤ h5.size := Nat.le_trans Z0 (Nat.le_of_eq W5.size.symm)
 have kp8 : Keep h0 h5 [r0] := kp0.wr W5 (Or.inl (List.mem_of_getElem? (i := 0) rfl))
 have fa9 : Arv Z h5 r0 kk .byte nn (vs.set ((p1 <<< ((1 : Int32) &&& 31))).toNatClampNeg (.int (nar .byte ((p2 >>> ((0 : Int32) &&& 31)).toInt8.toInt32)))) (.int (0 : Int32)) := Arv.set Ar4 q4 S4 M4 H4 G4 (fits_nar_byte _) W5 _ rfl l0
 have N5 := Fr.snoc X5 N0 g_r0
 obtain ⟨T10, X10, e10, st10⟩ := getS2 X5 hx hZ hown (host := "") (Or.inl (hw _ (List.mem_of_getElem? (i := 55) rfl))) Via.refl e5 (SS.2.2.2.2.1.ext fa6.2) (g := (mkF m 47 #[rv r0, iv ((p1 <<< ((1 : Int32) &&& 31)) + (1 : Int32)), iv p2] [(.int p2), (.int ((p1 <<< ((1 : Int32) &&& 31)) + (1 : Int32))), (.ref r0)])) rfl (hb hby d12_47)
 obtain ⟨cl11, Ar11, q11, S11, M11, H11, G11⟩ := id fa9
 have hin11 : ¬ (((p1 <<< ((1 : Int32) &&& 31)) + (1 : Int32)) < 0 ∨ cl11.slots.size ≤ (((p1 <<< ((1 : Int32) &&& 31)) + (1 : Int32))).toNatClampNeg) := inb_of S11 i1
 obtain ⟨T12, h12, X12, e12, W12, st12⟩ := stB X10 hx hZ e10 Ar11 (j := ((p1 <<< ((1 : Int32) &&& 31)) + (1 : Int32))) hin11 (g := (mkF m 52 #[rv r0, iv ((p1 <<< ((1 : Int32) &&& 31)) + (1 : Int32)), iv p2] [(.int ((p2 >>> ((8 : Int32) &&& 31)).toInt8.toInt32)), (.int ((p1 <<< ((1 : Int32) &&& 31)) + (1 : Int32))), (.ref r0)])) rfl rfl (hb hby d12_52)
 have fa13 : Old Z n0 h12 := fa6.wr W12 g_r0
 have z14 : n0 ≤ h12.size := Nat.le_trans z7 (Nat.le_of_eq W12.size.symm)
 have kp15 : Keep h0 h12 [r0] := kp8.wr W12 (Or.inl (List.mem_of_getElem? (i := 0) rfl))
 have fa16 : Arv Z h12 r0 kk .byte nn ((vs.set ((p1 <<< ((1 : Int32) &&& 31))).toNatClampNeg (.int (nar .byte ((p2 >>> ((0 : Int32) &&& 31)).toInt8.toInt32)))).set (((p1 <<< ((1 : Int32) &&& 31)) + (1 : Int32))).toNatClampNeg (.int (nar .byte ((p2 >>> ((8 : Int32) &&& 31)).toInt8.toInt32)))) (.int (0 : Int32)) := Arv.set Ar11 q11 S11 M11 H11 G11 (fits_nar_byte _) W12 _ rfl (by rw [List.length_set]; exact l1)
 have N12 := Fr.snoc X12 N5 g_r0
 obtain ⟨fs, hr, hrun, hended, hW, hsame⟩ := X12.leave (v := none) (fun _ => rfl)
 refine ⟨_, _, G2 _ ?_, hrun, hended, _, _, rfl, ?_, ⟨_, rfl⟩, hW, hsame.mono (by decide) (by decide)⟩
 ·skip
  refine XS.ifYes X1.here hx rfl (pc0 := 3) (pc' := 28) rfl (hb hby d12_3) rfl ((if0 _ _).trans (feq (by decide)).2) (by decide) (by decide) ?_
  refine XS.iloadN X1.here hx rfl (hb hby d12_28) rfl ?_
  refine XS.iconst X1.here hx rfl (hb hby d12_29) ?_
  refine XS.ishl X1.here hx rfl (hb hby d12_30) rfl ?_
  refine XS.istoreN X1.here hx rfl (hb hby d12_31) rfl (l' := #[rv r0, iv (p1 <<< ((1 : Int32) &&& 31)), iv p2]) rfl ?_
  refine XS.aloadN X1.here hx rfl (hb hby d12_32) rfl rfl ?_
  refine XS.iloadN X1.here hx rfl (hb hby d12_33) rfl ?_
  refine XS.iinc X1.here hx rfl (hb hby d12_34) rfl (l' := #[rv r0, iv ((p1 <<< ((1 : Int32) &&& 31)) + (1 : Int32)), iv p2]) rfl ?_
  refine XS.iloadN X1.here hx rfl (hb hby d12_37) rfl ?_
  refine st3 _ ?_
  refine XS.ishr X3.here hx rfl (hb hby d12_41) rfl ?_
  refine XS.i2b X3.here hx rfl (hb hby d12_42) rfl ?_
  refine st5 _ ?_
  refine XS.aloadN X5.here hx rfl (hb hby d12_44) rfl rfl ?_
  refine XS.iloadN X5.here hx rfl (hb hby d12_45) rfl ?_
  refine XS.iloadN X5.here hx rfl (hb hby d12_46) rfl ?_
  refine st10 _ ?_
  refine XS.ishr X10.here hx rfl (hb hby d12_50) rfl ?_
  refine XS.i2b X10.here hx rfl (hb hby d12_51) rfl ?_
  show Steps p.tables e below (T10.setTop (mkF m 52 #[rv r0, iv ((p1 <<< ((1 : Int32) &&& 31)) + (1 : Int32)), iv p2] [(.int ((p2 >>> ((8 : Int32) &&& 31)).toInt8.toInt32)), (.int ((p1 <<< ((1 : Int32) &&& 31)) + (1 : Int32))), (.ref r0)])) _
  refine st12 _ ?_
  exact X12.returnOut hx Bd.returns (hb hby d12_53) hr
 ·show Q12 Z r0 p1 p2 kk nn vs cst fv h0 n0 _ T12.heap _
  rw [e12]
  exact ⟨rfl, N12, kp15, fa16⟩
theorem d11_0 : decode jdk_52_method_3_code 0 = .ok (.iload_n 0, 1) := by decide +kernel
theorem d11_1 : decode jdk_52_method_3_code 1 = .ok (.ifCond .ge 11, 3) := by decide +kernel
theorem d11_12 : decode jdk_52_method_3_code 12 = .ok (.iload_n 0, 1) := by decide +kernel
theorem d11_13 : decode jdk_52_method_3_code 13 = .ok (.ldc 20, 2) := by decide +kernel
theorem d11_15 : decode jdk_52_method_3_code 15 = .ok (.if_icmp .lt 40, 3) := by decide +kernel
theorem d11_55 : decode jdk_52_method_3_code 55 = .ok (.iload_n 0, 1) := by decide +kernel
theorem d11_56 : decode jdk_52_method_3_code 56 = .ok (.iconst 1, 1) := by decide +kernel
theorem d11_57 : decode jdk_52_method_3_code 57 = .ok (.ishl, 1) := by decide +kernel
theorem d11_58 : decode jdk_52_method_3_code 58 = .ok (.ireturn, 1) := by decide +kernel
def Q11 (Z : State) (p0 : Int32) (h0 : Heap) (n0 : Nat) (v : Option Value) (h : Heap) (L : List Loc) : Prop := v = some (.int (p0 <<< ((1 : Int32) &&& 31))) ∧ Fr n0 L ∧ h = h0
theorem ef_rm11 (m : MethodId) (x0 : Int32) : entryFrame m #[(.int x0)] 1 = mkF m 0 #[.val (.int x0)] [] := by first | (simp [entryFrame, mkF, argsToLocals, Value.category]; done) | rfl
set_option maxRecDepth 65536 in
set_option maxHeartbeats 40000000 in
theorem rm11 (l : Launch) (Z : State) (a0 : Array Value) (hw : ∀ d ∈ tables_1, d.before a0 Z = true) (ws : List Jvm.Cond) (p0 : Int32) (h0 : Heap) (n0 : Nat) (Z0 : n0 ≤ h0.size) (hlo : ¬ (p0 < (0 : Int32))) (hhi : p0 < (1073741823 : Int32)) :
  MetFree l (⟨"java/lang/StringUTF16", "newBytesLength", "(I)I"⟩ : MethodName) (head1 (Jvm.Cond.code (⟨"java/lang/StringUTF16", "newBytesLength", "(I)I"⟩ : MethodName) jdk_52_method_3_code 1 (some .int) :: ws) ({ frames := 0, cells := 0, slots := 0, locals := 0 } : Room)) (fun a U => a = #[(.int p0)] ∧ Z.Warmed39 U.vm ∧ U.heap = h0) (fun _ _ _ _ _ => True) (fun _ U o U' => ∃ v L, o = .returned v ∧ Q11 Z p0 h0 n0 v U'.heap L ∧ FrameEnd U o U' L ({ frames := 0, cells := 0, slots := 0, locals := 0 } : Room).cells ({ frames := 0, cells := 0, slots := 0, locals := 0 } : Room).slots) := by
 refine MetFree.of_bodySF (plainFor_of_name pnc_java_lang_StringUTF16) hisR ?_
 intro p e s m args below meth c s₁ Bd hml0 hP hK
 obtain ⟨rfl, hZ, hh⟩ := hP
 have hx := Bd.exec
 have hby := Bd.bytes
 have hml : c.maxLocals = 1 := hml0
 have hown : s.vm.findClass "java/lang/StringUTF16" = some m.cls := findClass_of_methodNamed Bd.named
 have hnm := (name_of_methodNamed Bd.named Bd.method).1
 have X0 : Stand p l e ({ frames := 0, cells := 0, slots := 0, locals := 0 } : Room) s m #[(.int p0)] below meth c s₁ [] 0 0 := Stand.of_body Bd
 have e0 : s₁.heap = h0 := by rw [← hh, Bd.state]; rfl
 have N0 := Fr.nil n0
 have kp0 : Keep h0 h0 [] := Keep.refl _ _
 have G0 : ∀ t, Steps p.tables e below (s₁.setTop (mkF m 0 #[iv p0] [])) t → Steps p.tables e below (s₁.setTop (entryFrame m #[(.int p0)] 1)) t := fun t k => castTop (ef_rm11 m p0) k
 have G1 : ∀ t, Steps p.tables e below (s₁.setTop (mkF m 1 #[iv p0] [(.int p0)])) t → Steps p.tables e below (s₁.setTop (entryFrame m #[(.int p0)] 1)) t := by
  intro t kt
  refine G0 _ ?_
  refine XS.iloadN X0.here hx rfl (hb hby d11_0) rfl ?_
  exact kt
 have hc1_2 : ¬ (p0 < (0 : Int32)) := hlo
 have G3 : ∀ t, Steps p.tables e below (s₁.setTop (mkF m 15 #[iv p0] [(.int (1073741823 : Int32)), (.int p0)])) t → Steps p.tables e below (s₁.setTop (entryFrame m #[(.int p0)] 1)) t := by
  intro t kt
  refine G1 _ ?_
  refine XS.ifYes X0.here hx rfl (pc0 := 1) (pc' := 12) rfl (hb hby d11_1) rfl ((if0 _ _).trans (flt hc1_2).2.1) (by decide) (by decide) ?_
  refine XS.iloadN X0.here hx rfl (hb hby d11_12) rfl ?_
  refine X0.ldcInt hx hown (mvT hZ (hw _ (List.mem_of_getElem? (i := 49) rfl))) (g := (mkF m 13 #[iv p0] [(.int p0)])) rfl (hb hby d11_13) _ ?_
  exact kt
 have hc15_4 : p0 < (1073741823 : Int32) := hhi
 obtain ⟨fs, hr, hrun, hended, hW, hsame⟩ := X0.leave (v := some (.int (p0 <<< ((1 : Int32) &&& 31)))) (fun h => by rw [Bd.returns] at h; cases h)
 refine ⟨_, _, G3 _ ?_, hrun, hended, _, _, rfl, ?_, ⟨_, rfl⟩, hW, hsame.mono (by decide) (by decide)⟩
 ·skip
  refine XS.icmpYes X0.here hx rfl (pc0 := 15) (pc' := 55) rfl (hb hby d11_15) rfl (tlt hc15_4).1 (by decide) (by decide) ?_
  refine XS.iloadN X0.here hx rfl (hb hby d11_55) rfl ?_
  refine XS.iconst X0.here hx rfl (hb hby d11_56) ?_
  refine XS.ishl X0.here hx rfl (hb hby d11_57) rfl ?_
  exact retI X0 hx Bd.returns (hb hby d11_58) hr
 ·show Q11 Z p0 h0 n0 _ s₁.heap _
  rw [e0]
  exact ⟨rfl, N0, rfl⟩
theorem d18_0 : decode jdk_52_method_91_code 0 = .ok (.iload_n 0, 1) := by decide +kernel
theorem d18_1 : decode jdk_52_method_91_code 1 = .ok (.aload_n 1, 1) := by decide +kernel
theorem d18_2 : decode jdk_52_method_91_code 2 = .ok (.invokestatic 48, 3) := by decide +kernel
theorem pd_1 : parseMethodDescriptor "([B)I" = some ⟨[(.array .byte)], some .int⟩ := by decide +kernel
theorem d18_5 : decode jdk_52_method_91_code 5 = .ok (.invokestatic 414, 3) := by decide +kernel
theorem pd_2 : parseMethodDescriptor "(II)V" = some ⟨[.int, .int], none⟩ := by decide +kernel
theorem d18_8 : decode jdk_52_method_91_code 8 = .ok (.return_, 1) := by decide +kernel
def Q18 (Z : State) (p0 : Int32) (r1 : Addr) (kk : ClassId) (nn : Int32) (vs : List Value) (cst : Int32) (fv : Value) (h0 : Heap) (n0 : Nat) (v : Option Value) (h : Heap) (L : List Loc) : Prop := v = none ∧ Fr n0 L ∧ h = h0
theorem ef_rm18 (m : MethodId) (x0 : Int32) (x1 : Addr) : entryFrame m #[(.int x0), (.ref x1)] 2 = mkF m 0 #[.val (.int x0), .val (.ref x1)] [] := by first | (simp [entryFrame, mkF, argsToLocals, Value.category]; done) | rfl
set_option maxRecDepth 65536 in
set_option maxHeartbeats 40000000 in
theorem rm18 (l : Launch) (Z : State) (a0 : Array Value) (hw : ∀ d ∈ tables_1, d.before a0 Z = true) (ws : List Jvm.Cond) (p0 : Int32) (r1 : Addr) (kk : ClassId) (nn : Int32) (vs : List Value) (cst : Int32) (fv : Value) (h0 : Heap) (n0 : Nat) (Z0 : n0 ≤ h0.size) (V0 : Arv Z h0 r1 kk .byte nn vs (.int (0 : Int32))) (O0 : Old Z n0 h0) (hlo : ¬ (p0 < (0 : Int32))) (hhi : p0 < (nn >>> ((1 : Int32) &&& 31))) (SS : Sts Z cst fv) :
  MetFree l (⟨"java/lang/StringUTF16", "checkIndex", "(I[B)V"⟩ : MethodName) (head1 (Jvm.Cond.code (⟨"java/lang/StringUTF16", "checkIndex", "(I[B)V"⟩ : MethodName) jdk_52_method_91_code 2 none :: ws) ({ frames := 2, cells := 0, slots := 0, locals := 27 } : Room)) (fun a U => a = #[(.int p0), (.ref r1)] ∧ Z.Warmed39 U.vm ∧ U.heap = h0) (fun _ _ _ _ _ => True) (fun _ U o U' => ∃ v L, o = .returned v ∧ Q18 Z p0 r1 kk nn vs cst fv h0 n0 v U'.heap L ∧ FrameEnd U o U' L ({ frames := 2, cells := 0, slots := 0, locals := 27 } : Room).cells ({ frames := 2, cells := 0, slots := 0, locals := 27 } : Room).slots) := by
 refine MetFree.of_bodySF (plainFor_of_name pnc_java_lang_StringUTF16) hisR ?_
 intro p e s m args below meth c s₁ Bd hml0 hP hK
 obtain ⟨rfl, hZ, hh⟩ := hP
 have hx := Bd.exec
 have hby := Bd.bytes
 have hml : c.maxLocals = 2 := hml0
 have hown : s.vm.findClass "java/lang/StringUTF16" = some m.cls := findClass_of_methodNamed Bd.named
 have hnm := (name_of_methodNamed Bd.named Bd.method).1
 have X0 : Stand p l e ({ frames := 2, cells := 0, slots := 0, locals := 27 } : Room) s m #[(.int p0), (.ref r1)] below meth c s₁ [] 0 0 := Stand.of_body Bd
 have e0 : s₁.heap = h0 := by rw [← hh, Bd.state]; rfl
 have N0 := Fr.nil n0
 have kp0 : Keep h0 h0 [] := Keep.refl _ _
 have G0 : ∀ t, Steps p.tables e below (s₁.setTop (mkF m 0 #[iv p0, rv r1] [])) t → Steps p.tables e below (s₁.setTop (entryFrame m #[(.int p0), (.ref r1)] 2)) t := fun t k => castTop (ef_rm18 m p0 r1) k
 obtain ⟨_, _, ⟨T1, L1, k1, n1⟩, -, X1, ⟨Lc1, hQ1, l1, y1, z1⟩, st1⟩ := Jvm.LawKit.callS X0 hx (y := (⟨"java/lang/StringUTF16", "length", "([B)I"⟩ : MethodName)) hown (mvT hZ (hw _ (List.mem_of_getElem? (i := 78) rfl))) (mvT hZ (hw _ (List.mem_of_getElem? (i := 79) rfl))) (mvT hZ (hw _ (List.mem_of_getElem? (i := 22) rfl))) (mvT hZ (hw _ (List.mem_of_getElem? (i := 80) rfl))) (by decide) (backOf (W := 1) (rm19 l Z a0 hw [] r1 kk nn vs cst fv h0 n0 Z0 V0 O0  SS) hZ (hw _ (List.mem_of_getElem? (i := 80) rfl)) (hw _ (List.mem_of_getElem? (i := 22) rfl)) (by decide) (by decide)) (g := (mkF m 2 #[iv p0, rv r1] [(.ref r1), (.int p0)])) rfl (by rw [hml]; rfl) (argsL := [(.ref r1)]) (rest := [(.int p0)]) (lenOf pd_1 rfl) rfl (by show 2 * 0 + _ ≤ _; exact Nat.le_of_eq rfl) (hb hby d18_2) (fun _ _ => ⟨rfl, e0, (by decide : 0 + 0 ≤ _), (by decide : 0 + 0 ≤ _)⟩)
 dsimp only [Pt.U, Pt.locs, Pt.cells, Pt.slots] at X1 l1 y1 z1 st1 hQ1
 subst l1 y1 z1
 obtain ⟨rfl, N1q, eh1⟩ := hQ1
 have N1 := Fr.app N0 N1q
 obtain ⟨_, _, ⟨T2, L2, k2, n2⟩, -, X2, ⟨Lc2, hQ2, l2, y2, z2⟩, st2⟩ := Jvm.LawKit.callS X1 hx (y := (⟨"java/lang/String", "checkIndex", "(II)V"⟩ : MethodName)) hown (mvT hZ (hw _ (List.mem_of_getElem? (i := 81) rfl))) (mvT hZ (hw _ (List.mem_of_getElem? (i := 82) rfl))) (mvT hZ (hw _ (List.mem_of_getElem? (i := 8) rfl))) (mvT hZ (hw _ (List.mem_of_getElem? (i := 83) rfl))) (by decide) (backOf (W := 0) (rm20 l Z a0 hw [] p0 (nn >>> ((1 : Int32) &&& 31))  cst fv h0 n0 Z0  O0 hlo hhi SS) hZ (hw _ (List.mem_of_getElem? (i := 83) rfl)) (hw _ (List.mem_of_getElem? (i := 8) rfl)) (by decide) (by decide)) (g := (mkF m 5 #[iv p0, rv r1] [(.int (nn >>> ((1 : Int32) &&& 31))), (.int p0)])) rfl (by rw [hml]; rfl) (argsL := [(.int p0), (.int (nn >>> ((1 : Int32) &&& 31)))]) (rest := []) (lenOf pd_2 rfl) rfl (by show 2 * 0 + _ ≤ _; exact Nat.le_of_eq rfl) (hb hby d18_5) (fun _ _ => ⟨rfl, eh1, (by decide : 0 + 0 ≤ _), (by decide : 0 + 0 ≤ _)⟩)
 dsimp only [Pt.U, Pt.locs, Pt.cells, Pt.slots] at X2 l2 y2 z2 st2 hQ2
 subst l2 y2 z2
 obtain ⟨rfl, N2q, eh2⟩ := hQ2
 have N2 := Fr.app N1 N2q
 obtain ⟨fs, hr, hrun, hended, hW, hsame⟩ := X2.leave (v := none) (fun _ => rfl)
 refine ⟨_, _, G0 _ ?_, hrun, hended, _, _, rfl, ?_, ⟨_, rfl⟩, hW, hsame.mono (by decide) (by decide)⟩
 ·skip
  refine XS.iloadN X0.here hx rfl (hb hby d18_0) rfl ?_
  refine XS.aloadN X0.here hx rfl (hb hby d18_1) rfl rfl ?_
  refine st1 _ ?_
  refine st2 _ ?_
  exact X2.returnOut hx Bd.returns (hb hby d18_8) hr
 ·show Q18 Z p0 r1 kk nn vs cst fv h0 n0 _ T2.heap _
  rw [eh2]
  exact ⟨rfl, N2, rfl⟩
theorem d17_0 : decode jdk_52_method_83_code 0 = .ok (.iload_n 1, 1) := by decide +kernel
theorem d17_1 : decode jdk_52_method_83_code 1 = .ok (.aload_n 0, 1) := by decide +kernel
theorem d17_2 : decode jdk_52_method_83_code 2 = .ok (.invokestatic 67, 3) := by decide +kernel
theorem pd_3 : parseMethodDescriptor "(I[B)V" = some ⟨[.int, (.array .byte)], none⟩ := by decide +kernel
theorem d17_5 : decode jdk_52_method_83_code 5 = .ok (.aload_n 0, 1) := by decide +kernel
theorem d17_6 : decode jdk_52_method_83_code 6 = .ok (.iload_n 1, 1) := by decide +kernel
theorem d17_7 : decode jdk_52_method_83_code 7 = .ok (.invokestatic 71, 3) := by decide +kernel
theorem pd_4 : parseMethodDescriptor "([BI)C" = some ⟨[(.array .byte), .int], some .char⟩ := by decide +kernel
theorem d17_10 : decode jdk_52_method_83_code 10 = .ok (.ireturn, 1) := by decide +kernel
def fchU (x : Int32) (y : Int32) : Int32 := nar .char (fget x y)
def Q17 (Z : State) (r0 : Addr) (p1 : Int32) (kk : ClassId) (nn : Int32) (vs : List Value) (x y : Int32) (cst : Int32) (fv : Value) (h0 : Heap) (n0 : Nat) (v : Option Value) (h : Heap) (L : List Loc) : Prop := v = some (.int (fchU x y)) ∧ Fr n0 L ∧ h = h0
theorem ef_rm17 (m : MethodId) (x0 : Addr) (x1 : Int32) : entryFrame m #[(.ref x0), (.int x1)] 2 = mkF m 0 #[.val (.ref x0), .val (.int x1)] [] := by first | (simp [entryFrame, mkF, argsToLocals, Value.category]; done) | rfl
set_option maxRecDepth 65536 in
set_option maxHeartbeats 40000000 in
theorem rm17 (l : Launch) (Z : State) (a0 : Array Value) (hw : ∀ d ∈ tables_1, d.before a0 Z = true) (ws : List Jvm.Cond) (r0 : Addr) (p1 : Int32) (kk : ClassId) (nn : Int32) (vs : List Value) (x y : Int32) (cst : Int32) (fv : Value) (h0 : Heap) (n0 : Nat) (Z0 : n0 ≤ h0.size) (V0 : Arv Z h0 r0 kk .byte nn vs (.int (0 : Int32))) (O0 : Old Z n0 h0) (hlo : ¬ (p1 < (0 : Int32))) (hhi2 : p1 < (nn >>> ((1 : Int32) &&& 31))) (i0 : ¬ (p1 <<< ((1 : Int32) &&& 31)) < 0 ∧ (p1 <<< ((1 : Int32) &&& 31)) < nn) (i1 : ¬ ((p1 <<< ((1 : Int32) &&& 31)) + (1 : Int32)) < 0 ∧ ((p1 <<< ((1 : Int32) &&& 31)) + (1 : Int32)) < nn) (g0 : vs.getD ((p1 <<< ((1 : Int32) &&& 31))).toNatClampNeg (.int (0 : Int32)) = .int x) (g1 : vs.getD (((p1 <<< ((1 : Int32) &&& 31)) + (1 : Int32))).toNatClampNeg (.int (0 : Int32)) = .int y) (SS : Sts Z cst fv) :
  MetFree l (⟨"java/lang/StringUTF16", "charAt", "([BI)C"⟩ : MethodName) (head1 (Jvm.Cond.code (⟨"java/lang/StringUTF16", "charAt", "([BI)C"⟩ : MethodName) jdk_52_method_83_code 2 (some .char) :: ws) ({ frames := 3, cells := 0, slots := 0, locals := 40 } : Room)) (fun a U => a = #[(.ref r0), (.int p1)] ∧ Z.Warmed39 U.vm ∧ U.heap = h0) (fun _ _ _ _ _ => True) (fun _ U o U' => ∃ v L, o = .returned v ∧ Q17 Z r0 p1 kk nn vs x y cst fv h0 n0 v U'.heap L ∧ FrameEnd U o U' L ({ frames := 3, cells := 0, slots := 0, locals := 40 } : Room).cells ({ frames := 3, cells := 0, slots := 0, locals := 40 } : Room).slots) := by
 refine MetFree.of_bodySF (plainFor_of_name pnc_java_lang_StringUTF16) hisR ?_
 intro p e s m args below meth c s₁ Bd hml0 hP hK
 obtain ⟨rfl, hZ, hh⟩ := hP
 have hx := Bd.exec
 have hby := Bd.bytes
 have hml : c.maxLocals = 2 := hml0
 have hown : s.vm.findClass "java/lang/StringUTF16" = some m.cls := findClass_of_methodNamed Bd.named
 have hnm := (name_of_methodNamed Bd.named Bd.method).1
 have X0 : Stand p l e ({ frames := 3, cells := 0, slots := 0, locals := 40 } : Room) s m #[(.ref r0), (.int p1)] below meth c s₁ [] 0 0 := Stand.of_body Bd
 have e0 : s₁.heap = h0 := by rw [← hh, Bd.state]; rfl
 have N0 := Fr.nil n0
 have kp0 : Keep h0 h0 [] := Keep.refl _ _
 have G0 : ∀ t, Steps p.tables e below (s₁.setTop (mkF m 0 #[rv r0, iv p1] [])) t → Steps p.tables e below (s₁.setTop (entryFrame m #[(.ref r0), (.int p1)] 2)) t := fun t k => castTop (ef_rm17 m r0 p1) k
 obtain ⟨_, _, ⟨T1, L1, k1, n1⟩, -, X1, ⟨Lc1, hQ1, l1, y1, z1⟩, st1⟩ := Jvm.LawKit.callS X0 hx (y := (⟨"java/lang/StringUTF16", "checkIndex", "(I[B)V"⟩ : MethodName)) hown (mvT hZ (hw _ (List.mem_of_getElem? (i := 75) rfl))) (mvT hZ (hw _ (List.mem_of_getElem? (i := 76) rfl))) (mvT hZ (hw _ (List.mem_of_getElem? (i := 22) rfl))) (mvT hZ (hw _ (List.mem_of_getElem? (i := 77) rfl))) (by decide) (backOf (W := 0) (rm18 l Z a0 hw [] p1 r0 kk nn vs cst fv h0 n0 Z0 V0 O0 hlo hhi2 SS) hZ (hw _ (List.mem_of_getElem? (i := 77) rfl)) (hw _ (List.mem_of_getElem? (i := 22) rfl)) (by decide) (by decide)) (g := (mkF m 2 #[rv r0, iv p1] [(.ref r0), (.int p1)])) rfl (by rw [hml]; rfl) (argsL := [(.int p1), (.ref r0)]) (rest := []) (lenOf pd_3 rfl) rfl (by show 2 * 0 + _ ≤ _; exact Nat.le_of_eq rfl) (hb hby d17_2) (fun _ _ => ⟨rfl, e0, (by decide : 0 + 0 ≤ _), (by decide : 0 + 0 ≤ _)⟩)
 dsimp only [Pt.U, Pt.locs, Pt.cells, Pt.slots] at X1 l1 y1 z1 st1 hQ1
 subst l1 y1 z1
 obtain ⟨rfl, N1q, eh1⟩ := hQ1
 have N1 := Fr.app N0 N1q
 obtain ⟨_, _, ⟨T2, L2, k2, n2⟩, -, X2, ⟨Lc2, hQ2, l2, y2, z2⟩, st2⟩ := Jvm.LawKit.callS X1 hx (y := (⟨"java/lang/StringUTF16", "getChar", "([BI)C"⟩ : MethodName)) hown (mvT hZ (hw _ (List.mem_of_getElem? (i := 56) rfl))) (mvT hZ (hw _ (List.mem_of_getElem? (i := 57) rfl))) (mvT hZ (hw _ (List.mem_of_getElem? (i := 22) rfl))) (mvT hZ (hw _ (List.mem_of_getElem? (i := 58) rfl))) (by decide) (backOf (W := 0) (rm13 l Z a0 hw [] r0 p1 kk nn vs x y cst fv h0 n0 Z0 V0 O0 i0 i1 g0 g1 SS) hZ (hw _ (List.mem_of_getElem? (i := 58) rfl)) (hw _ (List.mem_of_getElem? (i := 22) rfl)) (by decide) (by decide)) (g := (mkF m 7 #[rv r0, iv p1] [(.int p1), (.ref r0)])) rfl (by rw [hml]; rfl) (argsL := [(.ref r0), (.int p1)]) (rest := []) (lenOf pd_4 rfl) rfl (by show 2 * 0 + _ ≤ _; exact Nat.le_of_eq rfl) (hb hby d17_7) (fun _ _ => ⟨rfl, eh1, (by decide : 0 + 0 ≤ _), (by decide : 0 + 0 ≤ _)⟩)
 dsimp only [Pt.U, Pt.locs, Pt.cells, Pt.slots] at X2 l2 y2 z2 st2 hQ2
 subst l2 y2 z2
 obtain ⟨rfl, N2q, eh2⟩ := hQ2
 have N2 := Fr.app N1 N2q
 obtain ⟨fs, hr, hrun, hended, hW, hsame⟩ := X2.leave (v := some (.int (nar .char (fget x y)))) (fun h => by rw [Bd.returns] at h; cases h)
 refine ⟨_, _, G0 _ ?_, hrun, hended, _, _, rfl, ?_, ⟨_, rfl⟩, hW, hsame.mono (by decide) (by decide)⟩
 ·skip
  refine XS.iloadN X0.here hx rfl (hb hby d17_0) rfl ?_
  refine XS.aloadN X0.here hx rfl (hb hby d17_1) rfl rfl ?_
  refine st1 _ ?_
  refine XS.aloadN X1.here hx rfl (hb hby d17_5) rfl rfl ?_
  refine XS.iloadN X1.here hx rfl (hb hby d17_6) rfl ?_
  refine st2 _ ?_
  exact retN X2 hx (t := .char) Bd.returns (by simp) (hb hby d17_10) hr
 ·show Q17 Z r0 p1 kk nn vs x y cst fv h0 n0 _ T2.heap _
  rw [eh2]
  exact ⟨by rw [fchU], N2, rfl⟩
theorem d22_0 : decode jdk_43_method_2_code 0 = .ok (.iload_n 1, 1) := by decide +kernel
theorem d22_1 : decode jdk_43_method_2_code 1 = .ok (.aload_n 0, 1) := by decide +kernel
theorem d22_2 : decode jdk_43_method_2_code 2 = .ok (.arraylength, 1) := by decide +kernel
theorem d22_3 : decode jdk_43_method_2_code 3 = .ok (.invokestatic 9, 3) := by decide +kernel
theorem d22_6 : decode jdk_43_method_2_code 6 = .ok (.aload_n 0, 1) := by decide +kernel
theorem d22_7 : decode jdk_43_method_2_code 7 = .ok (.iload_n 1, 1) := by decide +kernel
theorem d22_8 : decode jdk_43_method_2_code 8 = .ok (.baload, 1) := by decide +kernel
theorem d22_9 : decode jdk_43_method_2_code 9 = .ok (.sipush 255, 3) := by decide +kernel
theorem d22_12 : decode jdk_43_method_2_code 12 = .ok (.iand, 1) := by decide +kernel
theorem d22_13 : decode jdk_43_method_2_code 13 = .ok (.i2c, 1) := by decide +kernel
theorem d22_14 : decode jdk_43_method_2_code 14 = .ok (.ireturn, 1) := by decide +kernel
def fchL (x : Int32) : Int32 := nar .char ((x &&& (255 : Int32)).toUInt32.toUInt16.toUInt32.toInt32)
def Q22 (Z : State) (r0 : Addr) (p1 : Int32) (kk : ClassId) (nn : Int32) (vs : List Value) (x : Int32) (cst : Int32) (fv : Value) (h0 : Heap) (n0 : Nat) (v : Option Value) (h : Heap) (L : List Loc) : Prop := v = some (.int (fchL x)) ∧ Fr n0 L ∧ h = h0
theorem ef_rm22 (m : MethodId) (x0 : Addr) (x1 : Int32) : entryFrame m #[(.ref x0), (.int x1)] 2 = mkF m 0 #[.val (.ref x0), .val (.int x1)] [] := by first | (simp [entryFrame, mkF, argsToLocals, Value.category]; done) | rfl
theorem pnc_java_lang_StringLatin1 : plainName "java/lang/StringLatin1" = true := by first | (simp [plainName, overriddenIn]; done) | decide +kernel
set_option maxRecDepth 65536 in
set_option maxHeartbeats 40000000 in
theorem rm22 (l : Launch) (Z : State) (a0 : Array Value) (hw : ∀ d ∈ tables_1, d.before a0 Z = true) (ws : List Jvm.Cond) (r0 : Addr) (p1 : Int32) (kk : ClassId) (nn : Int32) (vs : List Value) (x : Int32) (cst : Int32) (fv : Value) (h0 : Heap) (n0 : Nat) (Z0 : n0 ≤ h0.size) (V0 : Arv Z h0 r0 kk .byte nn vs (.int (0 : Int32))) (O0 : Old Z n0 h0) (hlo : ¬ (p1 < (0 : Int32))) (hhi : p1 < nn) (g0 : vs.getD (p1).toNatClampNeg (.int (0 : Int32)) = .int x) (SS : Sts Z cst fv) :
  MetFree l (⟨"java/lang/StringLatin1", "charAt", "([BI)C"⟩ : MethodName) (head1 (Jvm.Cond.code (⟨"java/lang/StringLatin1", "charAt", "([BI)C"⟩ : MethodName) jdk_43_method_2_code 2 (some .char) :: ws) ({ frames := 2, cells := 0, slots := 0, locals := 27 } : Room)) (fun a U => a = #[(.ref r0), (.int p1)] ∧ Z.Warmed39 U.vm ∧ U.heap = h0) (fun _ _ _ _ _ => True) (fun _ U o U' => ∃ v L, o = .returned v ∧ Q22 Z r0 p1 kk nn vs x cst fv h0 n0 v U'.heap L ∧ FrameEnd U o U' L ({ frames := 2, cells := 0, slots := 0, locals := 27 } : Room).cells ({ frames := 2, cells := 0, slots := 0, locals := 27 } : Room).slots) := by
 refine MetFree.of_bodySF (plainFor_of_name pnc_java_lang_StringLatin1) hisR ?_
 intro p e s m args below meth c s₁ Bd hml0 hP hK
 obtain ⟨rfl, hZ, hh⟩ := hP
 have hx := Bd.exec
 have hby := Bd.bytes
 have hml : c.maxLocals = 2 := hml0
 have hown : s.vm.findClass "java/lang/StringLatin1" = some m.cls := findClass_of_methodNamed Bd.named
 have hnm := (name_of_methodNamed Bd.named Bd.method).1
 have X0 : Stand p l e ({ frames := 2, cells := 0, slots := 0, locals := 27 } : Room) s m #[(.ref r0), (.int p1)] below meth c s₁ [] 0 0 := Stand.of_body Bd
 have e0 : s₁.heap = h0 := by rw [← hh, Bd.state]; rfl
 have N0 := Fr.nil n0
 have kp0 : Keep h0 h0 [] := Keep.refl _ _
 have G0 : ∀ t, Steps p.tables e below (s₁.setTop (mkF m 0 #[rv r0, iv p1] [])) t → Steps p.tables e below (s₁.setTop (entryFrame m #[(.ref r0), (.int p1)] 2)) t := fun t k => castTop (ef_rm22 m r0 p1) k
 obtain ⟨cl, Ar, qk, Sz, Mz, Hz, Gz⟩ := id V0
 have hin0 : ¬ (p1 < 0 ∨ cl.slots.size ≤ (p1).toNatClampNeg) := inb_of Sz ⟨hlo, hhi⟩
 have hat0 : cl.slots[(p1).toNatClampNeg]? = some (.int x) := Hz.at hin0 g0
 obtain ⟨cl1, Ar1, q1, S1, M1, H1, G1⟩ := id V0
 obtain ⟨_, _, ⟨T2, L2, k2, n2⟩, -, X2, ⟨Lc2, hQ2, l2, y2, z2⟩, st2⟩ := Jvm.LawKit.callS X0 hx (y := (⟨"java/lang/String", "checkIndex", "(II)V"⟩ : MethodName)) hown (mvT hZ (hw _ (List.mem_of_getElem? (i := 95) rfl))) (mvT hZ (hw _ (List.mem_of_getElem? (i := 82) rfl))) (mvT hZ (hw _ (List.mem_of_getElem? (i := 8) rfl))) (mvT hZ (hw _ (List.mem_of_getElem? (i := 83) rfl))) (by decide) (backOf (W := 0) (rm20 l Z a0 hw [] p1 nn  cst fv h0 n0 Z0  O0 hlo hhi SS) hZ (hw _ (List.mem_of_getElem? (i := 83) rfl)) (hw _ (List.mem_of_getElem? (i := 8) rfl)) (by decide) (by decide)) (g := (mkF m 3 #[rv r0, iv p1] [(.int nn), (.int p1)])) rfl (by rw [hml]; rfl) (argsL := [(.int p1), (.int nn)]) (rest := []) (lenOf pd_2 rfl) rfl (by show 2 * 0 + _ ≤ _; exact Nat.le_of_eq rfl) (hb hby d22_3) (fun _ _ => ⟨rfl, e0, (by decide : 0 + 0 ≤ _), (by decide : 0 + 0 ≤ _)⟩)
 dsimp only [Pt.U, Pt.locs, Pt.cells, Pt.slots] at X2 l2 y2 z2 st2 hQ2
 subst l2 y2 z2
 obtain ⟨rfl, N2q, eh2⟩ := hQ2
 have N2 := Fr.app N0 N2q
 obtain ⟨fs, hr, hrun, hended, hW, hsame⟩ := X2.leave (v := some (.int (nar .char ((x &&& (255 : Int32)).toUInt32.toUInt16.toUInt32.toInt32)))) (fun h => by rw [Bd.returns] at h; cases h)
 refine ⟨_, _, G0 _ ?_, hrun, hended, _, _, rfl, ?_, ⟨_, rfl⟩, hW, hsame.mono (by decide) (by decide)⟩
 ·skip
  refine XS.iloadN X0.here hx rfl (hb hby d22_0) rfl ?_
  refine XS.aloadN X0.here hx rfl (hb hby d22_1) rfl rfl ?_
  refine X0.arraylength hx (by rw [e0]; exact Ar1.1) (State.isArrayOf_alike hZ.alike Ar1.2.1) (g := (mkF m 2 #[rv r0, iv p1] [(.ref r0), (.int p1)])) rfl rfl (hb hby d22_2) _ ?_
  rw [len_of S1 M1]
  refine st2 _ ?_
  refine XS.aloadN X2.here hx rfl (hb hby d22_6) rfl rfl ?_
  refine XS.iloadN X2.here hx rfl (hb hby d22_7) rfl ?_
  refine X2.baloadBytes hx (j := p1) (v := (.int x)) (by rw [eh2]; exact Ar.1) (State.isArrayOf_alike hZ.alike Ar.2.1) Ar.2.2 hin0 hat0 (g := (mkF m 8 #[rv r0, iv p1] [(.int p1), (.ref r0)])) rfl rfl (hb hby d22_8) _ ?_
  refine XS.sipush X2.here hx rfl (hb hby d22_9) ?_
  refine XS.iand X2.here hx rfl (hb hby d22_12) rfl ?_
  refine XS.i2c X2.here hx rfl (hb hby d22_13) rfl ?_
  exact retN X2 hx (t := .char) Bd.returns (by simp) (hb hby d22_14) hr
 ·show Q22 Z r0 p1 kk nn vs x cst fv h0 n0 _ T2.heap _
  rw [eh2]
  exact ⟨by rw [fchL], N2, rfl⟩
theorem d15_0 : decode jdk_42_method_56_code 0 = .ok (.aload_n 0, 1) := by decide +kernel
theorem d15_1 : decode jdk_42_method_56_code 1 = .ok (.invokevirtual 492, 3) := by decide +kernel
theorem pd_5 : parseMethodDescriptor "()Z" = some ⟨[], some .boolean⟩ := by decide +kernel
theorem d15_4 : decode jdk_42_method_56_code 4 = .ok (.ifCond .eq 12, 3) := by decide +kernel
theorem d15_7 : decode jdk_42_method_56_code 7 = .ok (.aload_n 0, 1) := by decide +kernel
theorem d15_8 : decode jdk_42_method_56_code 8 = .ok (.getfield 9, 3) := by decide +kernel
theorem d15_11 : decode jdk_42_method_56_code 11 = .ok (.iload_n 1, 1) := by decide +kernel
theorem d15_12 : decode jdk_42_method_56_code 12 = .ok (.invokestatic 495, 3) := by decide +kernel
theorem d15_15 : decode jdk_42_method_56_code 15 = .ok (.ireturn, 1) := by decide +kernel
def QChL (Z : State) (r0 : Addr) (p1 : Int32) (ta : Addr) (kk : ClassId) (nn : Int32) (vs : List Value) (x r : Int32) (cst : Int32) (fv : Value) (h0 : Heap) (n0 : Nat) (v : Option Value) (h : Heap) (L : List Loc) : Prop := v = some (.int r) ∧ Fr n0 L ∧ h = h0
theorem ef_rmChL (m : MethodId) (x0 : Addr) (x1 : Int32) : entryFrame m #[(.ref x0), (.int x1)] 2 = mkF m 0 #[.val (.ref x0), .val (.int x1)] [] := by first | (simp [entryFrame, mkF, argsToLocals, Value.category]; done) | rfl
set_option maxRecDepth 65536 in
set_option maxHeartbeats 40000000 in
theorem rmChL (l : Launch) (Z : State) (a0 : Array Value) (hw : ∀ d ∈ tables_1, d.before a0 Z = true) (ws : List Jvm.Cond) (r0 : Addr) (p1 : Int32) (ta : Addr) (kk : ClassId) (nn : Int32) (vs : List Value) (x r : Int32) (cst : Int32) (fv : Value) (h0 : Heap) (n0 : Nat) (Z0 : n0 ≤ h0.size) (E0 : Exa Z h0 r0 "java/lang/String") (Fc : Fld Z h0 r0 "java/lang/String" "coder" "B" (.int (0 : Int32))) (Fv : Fld Z h0 r0 "java/lang/String" "value" "[B" (.ref ta)) (V0 : Arv Z h0 ta kk .byte nn vs (.int (0 : Int32))) (O0 : Old Z n0 h0) (hlo : ¬ (p1 < (0 : Int32))) (hhi : p1 < nn) (g0 : vs.getD (p1).toNatClampNeg (.int (0 : Int32)) = .int x) (hres : nar .char (fchL x) = r) (SS : Sts Z cst fv) :
  MetFree l (⟨"java/lang/String", "charAt", "(I)C"⟩ : MethodName) (head1 (Jvm.Cond.code (⟨"java/lang/String", "charAt", "(I)C"⟩ : MethodName) jdk_42_method_56_code 2 (some .char) :: ws) ({ frames := 3, cells := 0, slots := 0, locals := 40 } : Room)) (fun a U => a = #[(.ref r0), (.int p1)] ∧ Z.Warmed39 U.vm ∧ U.heap = h0) (fun _ _ _ _ _ => True) (fun _ U o U' => ∃ v L, o = .returned v ∧ QChL Z r0 p1 ta kk nn vs x r cst fv h0 n0 v U'.heap L ∧ FrameEnd U o U' L ({ frames := 3, cells := 0, slots := 0, locals := 40 } : Room).cells ({ frames := 3, cells := 0, slots := 0, locals := 40 } : Room).slots) := by
 refine MetFree.of_bodySF (plainFor_of_name pnc_java_lang_String) hisR ?_
 intro p e s m args below meth c s₁ Bd hml0 hP hK
 obtain ⟨rfl, hZ, hh⟩ := hP
 have hx := Bd.exec
 have hby := Bd.bytes
 have hml : c.maxLocals = 2 := hml0
 have hown : s.vm.findClass "java/lang/String" = some m.cls := findClass_of_methodNamed Bd.named
 have hnm := (name_of_methodNamed Bd.named Bd.method).1
 have X0 : Stand p l e ({ frames := 3, cells := 0, slots := 0, locals := 40 } : Room) s m #[(.ref r0), (.int p1)] below meth c s₁ [] 0 0 := Stand.of_body Bd
 have e0 : s₁.heap = h0 := by rw [← hh, Bd.state]; rfl
 have N0 := Fr.nil n0
 have kp0 : Keep h0 h0 [] := Keep.refl _ _
 have G0 : ∀ t, Steps p.tables e below (s₁.setTop (mkF m 0 #[rv r0, iv p1] [])) t → Steps p.tables e below (s₁.setTop (entryFrame m #[(.ref r0), (.int p1)] 2)) t := fun t k => castTop (ef_rmChL m r0 p1) k
 obtain ⟨cq1, kq1, q1a, q1b, q1c⟩ := isOf hZ e0 E0
 obtain ⟨_, _, ⟨T1, L1, k1, n1⟩, -, X1, ⟨Lc1, hQ1, l1, y1, z1⟩, st1⟩ := X0.virtualBack hx (y := (⟨"java/lang/String", "isLatin1", "()Z"⟩ : MethodName)) (z := (⟨"java/lang/String", "isLatin1", "()Z"⟩ : MethodName)) hown (mvT hZ (hw _ (List.mem_of_getElem? (i := 67) rfl))) (mvT hZ (hw _ (List.mem_of_getElem? (i := 68) rfl))) (notFace_of_selects (args := #[]) (mvT hZ (hw _ (List.mem_of_getElem? (i := 70) rfl)))) (mvT hZ (hw _ (List.mem_of_getElem? (i := 70) rfl))) (mvT hZ (hw _ (List.mem_of_getElem? (i := 69) rfl))) (by decide) (backOf (W := 0) (rm16 l Z a0 hw [] r0 (0 : Int32) cst fv h0 n0 Z0 Fc O0  SS) hZ (hw _ (List.mem_of_getElem? (i := 71) rfl)) (hw _ (List.mem_of_getElem? (i := 8) rfl)) (by decide) (by decide)) q1a q1c (g := (mkF m 1 #[rv r0, iv p1] [(.ref r0)])) rfl (by rw [hml]; rfl) (Steps.refl _) (argsL := []) (rest := []) (lenOf pd_5 rfl) rfl (by show 2 * 0 + _ ≤ _; exact Nat.le_of_eq rfl) (hb hby d15_1) (fun _ _ => ⟨rfl, e0, (by decide : 0 + 0 ≤ _), (by decide : 0 + 0 ≤ _)⟩)
 dsimp only [Pt.U, Pt.locs, Pt.cells, Pt.slots] at X1 l1 y1 z1 st1 hQ1
 subst l1 y1 z1
 obtain ⟨rfl, N1q, eh1⟩ := hQ1
 have N1 := Fr.app N0 N1q
 have G2 : ∀ t, Steps p.tables e below (T1.setTop (mkF m 4 #[rv r0, iv p1] [(.int (1 : Int32))])) t → Steps p.tables e below (s₁.setTop (entryFrame m #[(.ref r0), (.int p1)] 2)) t := by
  intro t kt
  refine G0 _ ?_
  refine XS.aloadN X0.here hx rfl (hb hby d15_0) rfl rfl ?_
  refine st1.trans ?_
  exact kt
 obtain ⟨T3, X3, e3, st3⟩ := getF X1 hx hZ hown (host := "") (Or.inl (hw _ (List.mem_of_getElem? (i := 33) rfl))) Via.refl eh1 Fv (g := (mkF m 8 #[rv r0, iv p1] [(.ref r0)])) rfl rfl (hb hby d15_8)
 obtain ⟨_, _, ⟨T4, L4, k4, n4⟩, -, X4, ⟨Lc4, hQ4, l4, y4, z4⟩, st4⟩ := Jvm.LawKit.callS X3 hx (y := (⟨"java/lang/StringLatin1", "charAt", "([BI)C"⟩ : MethodName)) hown (mvT hZ (hw _ (List.mem_of_getElem? (i := 91) rfl))) (mvT hZ (hw _ (List.mem_of_getElem? (i := 92) rfl))) (mvT hZ (hw _ (List.mem_of_getElem? (i := 93) rfl))) (mvT hZ (hw _ (List.mem_of_getElem? (i := 94) rfl))) (by decide) (backOf (W := 0) (rm22 l Z a0 hw [] ta p1 kk nn vs x cst fv h0 n0 Z0 V0 O0 hlo hhi g0 SS) hZ (hw _ (List.mem_of_getElem? (i := 94) rfl)) (hw _ (List.mem_of_getElem? (i := 93) rfl)) (by decide) (by decide)) (g := (mkF m 12 #[rv r0, iv p1] [(.int p1), (.ref ta)])) rfl (by rw [hml]; rfl) (argsL := [(.ref ta), (.int p1)]) (rest := []) (lenOf pd_4 rfl) rfl (by show 2 * 0 + _ ≤ _; exact Nat.le_of_eq rfl) (hb hby d15_12) (fun _ _ => ⟨rfl, e3, (by decide : 0 + 0 ≤ _), (by decide : 0 + 0 ≤ _)⟩)
 dsimp only [Pt.U, Pt.locs, Pt.cells, Pt.slots] at X4 l4 y4 z4 st4 hQ4
 subst l4 y4 z4
 obtain ⟨rfl, N4q, eh4⟩ := hQ4
 have N4 := Fr.app N1 N4q
 obtain ⟨fs, hr, hrun, hended, hW, hsame⟩ := X4.leave (v := some (.int (nar .char (fchL x)))) (fun h => by rw [Bd.returns] at h; cases h)
 refine ⟨_, _, G2 _ ?_, hrun, hended, _, _, rfl, ?_, ⟨_, rfl⟩, hW, hsame.mono (by decide) (by decide)⟩
 ·skip
  refine XS.ifNo X1.here hx rfl (hb hby d15_4) rfl ((if0 _ _).trans (feq (by decide)).1) ?_
  refine XS.aloadN X1.here hx rfl (hb hby d15_7) rfl rfl ?_
  refine st3 _ ?_
  refine XS.iloadN X3.here hx rfl (hb hby d15_11) rfl ?_
  refine st4 _ ?_
  exact retN X4 hx (t := .char) Bd.returns (by simp) (hb hby d15_15) hr
 ·show QChL Z r0 p1 ta kk nn vs x r cst fv h0 n0 _ T4.heap _
  rw [eh4]
  exact ⟨by rw [hres], N4, rfl⟩
theorem d15_16 : decode jdk_42_method_56_code 16 = .ok (.aload_n 0, 1) := by decide +kernel
theorem d15_17 : decode jdk_42_method_56_code 17 = .ok (.getfield 9, 3) := by decide +kernel
theorem d15_20 : decode jdk_42_method_56_code 20 = .ok (.iload_n 1, 1) := by decide +kernel
theorem d15_21 : decode jdk_42_method_56_code 21 = .ok (.invokestatic 498, 3) := by decide +kernel
theorem d15_24 : decode jdk_42_method_56_code 24 = .ok (.ireturn, 1) := by decide +kernel
def QChU (Z : State) (r0 : Addr) (p1 : Int32) (ta : Addr) (kk : ClassId) (nn : Int32) (vs : List Value) (x y r : Int32) (cst : Int32) (fv : Value) (h0 : Heap) (n0 : Nat) (v : Option Value) (h : Heap) (L : List Loc) : Prop := v = some (.int r) ∧ Fr n0 L ∧ h = h0
theorem ef_rmChU (m : MethodId) (x0 : Addr) (x1 : Int32) : entryFrame m #[(.ref x0), (.int x1)] 2 = mkF m 0 #[.val (.ref x0), .val (.int x1)] [] := by first | (simp [entryFrame, mkF, argsToLocals, Value.category]; done) | rfl
set_option maxRecDepth 65536 in
set_option maxHeartbeats 40000000 in
theorem rmChU (l : Launch) (Z : State) (a0 : Array Value) (hw : ∀ d ∈ tables_1, d.before a0 Z = true) (ws : List Jvm.Cond) (r0 : Addr) (p1 : Int32) (ta : Addr) (kk : ClassId) (nn : Int32) (vs : List Value) (x y r : Int32) (cst : Int32) (fv : Value) (h0 : Heap) (n0 : Nat) (Z0 : n0 ≤ h0.size) (E0 : Exa Z h0 r0 "java/lang/String") (Fc : Fld Z h0 r0 "java/lang/String" "coder" "B" (.int (1 : Int32))) (Fv : Fld Z h0 r0 "java/lang/String" "value" "[B" (.ref ta)) (V0 : Arv Z h0 ta kk .byte nn vs (.int (0 : Int32))) (O0 : Old Z n0 h0) (hlo : ¬ (p1 < (0 : Int32))) (hhi2 : p1 < (nn >>> ((1 : Int32) &&& 31))) (i0 : ¬ (p1 <<< ((1 : Int32) &&& 31)) < 0 ∧ (p1 <<< ((1 : Int32) &&& 31)) < nn) (i1 : ¬ ((p1 <<< ((1 : Int32) &&& 31)) + (1 : Int32)) < 0 ∧ ((p1 <<< ((1 : Int32) &&& 31)) + (1 : Int32)) < nn) (g0 : vs.getD ((p1 <<< ((1 : Int32) &&& 31))).toNatClampNeg (.int (0 : Int32)) = .int x) (g1 : vs.getD (((p1 <<< ((1 : Int32) &&& 31)) + (1 : Int32))).toNatClampNeg (.int (0 : Int32)) = .int y) (hres : nar .char (fchU x y) = r) (SS : Sts Z cst fv) :
  MetFree l (⟨"java/lang/String", "charAt", "(I)C"⟩ : MethodName) (head1 (Jvm.Cond.code (⟨"java/lang/String", "charAt", "(I)C"⟩ : MethodName) jdk_42_method_56_code 2 (some .char) :: ws) ({ frames := 4, cells := 0, slots := 0, locals := 53 } : Room)) (fun a U => a = #[(.ref r0), (.int p1)] ∧ Z.Warmed39 U.vm ∧ U.heap = h0) (fun _ _ _ _ _ => True) (fun _ U o U' => ∃ v L, o = .returned v ∧ QChU Z r0 p1 ta kk nn vs x y r cst fv h0 n0 v U'.heap L ∧ FrameEnd U o U' L ({ frames := 4, cells := 0, slots := 0, locals := 53 } : Room).cells ({ frames := 4, cells := 0, slots := 0, locals := 53 } : Room).slots) := by
 refine MetFree.of_bodySF (plainFor_of_name pnc_java_lang_String) hisR ?_
 intro p e s m args below meth c s₁ Bd hml0 hP hK
 obtain ⟨rfl, hZ, hh⟩ := hP
 have hx := Bd.exec
 have hby := Bd.bytes
 have hml : c.maxLocals = 2 := hml0
 have hown : s.vm.findClass "java/lang/String" = some m.cls := findClass_of_methodNamed Bd.named
 have hnm := (name_of_methodNamed Bd.named Bd.method).1
 have X0 : Stand p l e ({ frames := 4, cells := 0, slots := 0, locals := 53 } : Room) s m #[(.ref r0), (.int p1)] below meth c s₁ [] 0 0 := Stand.of_body Bd
 have e0 : s₁.heap = h0 := by rw [← hh, Bd.state]; rfl
 have N0 := Fr.nil n0
 have kp0 : Keep h0 h0 [] := Keep.refl _ _
 have G0 : ∀ t, Steps p.tables e below (s₁.setTop (mkF m 0 #[rv r0, iv p1] [])) t → Steps p.tables e below (s₁.setTop (entryFrame m #[(.ref r0), (.int p1)] 2)) t := fun t k => castTop (ef_rmChU m r0 p1) k
 obtain ⟨cq1, kq1, q1a, q1b, q1c⟩ := isOf hZ e0 E0
 obtain ⟨_, _, ⟨T1, L1, k1, n1⟩, -, X1, ⟨Lc1, hQ1, l1, y1, z1⟩, st1⟩ := X0.virtualBack hx (y := (⟨"java/lang/String", "isLatin1", "()Z"⟩ : MethodName)) (z := (⟨"java/lang/String", "isLatin1", "()Z"⟩ : MethodName)) hown (mvT hZ (hw _ (List.mem_of_getElem? (i := 67) rfl))) (mvT hZ (hw _ (List.mem_of_getElem? (i := 68) rfl))) (notFace_of_selects (args := #[]) (mvT hZ (hw _ (List.mem_of_getElem? (i := 70) rfl)))) (mvT hZ (hw _ (List.mem_of_getElem? (i := 70) rfl))) (mvT hZ (hw _ (List.mem_of_getElem? (i := 69) rfl))) (by decide) (backOf (W := 0) (rm16 l Z a0 hw [] r0 (1 : Int32) cst fv h0 n0 Z0 Fc O0  SS) hZ (hw _ (List.mem_of_getElem? (i := 71) rfl)) (hw _ (List.mem_of_getElem? (i := 8) rfl)) (by decide) (by decide)) q1a q1c (g := (mkF m 1 #[rv r0, iv p1] [(.ref r0)])) rfl (by rw [hml]; rfl) (Steps.refl _) (argsL := []) (rest := []) (lenOf pd_5 rfl) rfl (by show 2 * 0 + _ ≤ _; exact Nat.le_of_eq rfl) (hb hby d15_1) (fun _ _ => ⟨rfl, e0, (by decide : 0 + 0 ≤ _), (by decide : 0 + 0 ≤ _)⟩)
 dsimp only [Pt.U, Pt.locs, Pt.cells, Pt.slots] at X1 l1 y1 z1 st1 hQ1
 subst l1 y1 z1
 obtain ⟨rfl, N1q, eh1⟩ := hQ1
 have N1 := Fr.app N0 N1q
 have G2 : ∀ t, Steps p.tables e below (T1.setTop (mkF m 4 #[rv r0, iv p1] [(.int (0 : Int32))])) t → Steps p.tables e below (s₁.setTop (entryFrame m #[(.ref r0), (.int p1)] 2)) t := by
  intro t kt
  refine G0 _ ?_
  refine XS.aloadN X0.here hx rfl (hb hby d15_0) rfl rfl ?_
  refine st1.trans ?_
  exact kt
 obtain ⟨T3, X3, e3, st3⟩ := getF X1 hx hZ hown (host := "") (Or.inl (hw _ (List.mem_of_getElem? (i := 33) rfl))) Via.refl eh1 Fv (g := (mkF m 17 #[rv r0, iv p1] [(.ref r0)])) rfl rfl (hb hby d15_17)
 obtain ⟨_, _, ⟨T4, L4, k4, n4⟩, -, X4, ⟨Lc4, hQ4, l4, y4, z4⟩, st4⟩ := Jvm.LawKit.callS X3 hx (y := (⟨"java/lang/StringUTF16", "charAt", "([BI)C"⟩ : MethodName)) hown (mvT hZ (hw _ (List.mem_of_getElem? (i := 72) rfl))) (mvT hZ (hw _ (List.mem_of_getElem? (i := 73) rfl))) (mvT hZ (hw _ (List.mem_of_getElem? (i := 22) rfl))) (mvT hZ (hw _ (List.mem_of_getElem? (i := 74) rfl))) (by decide) (backOf (W := 0) (rm17 l Z a0 hw [] ta p1 kk nn vs x y cst fv h0 n0 Z0 V0 O0 hlo hhi2 i0 i1 g0 g1 SS) hZ (hw _ (List.mem_of_getElem? (i := 74) rfl)) (hw _ (List.mem_of_getElem? (i := 22) rfl)) (by decide) (by decide)) (g := (mkF m 21 #[rv r0, iv p1] [(.int p1), (.ref ta)])) rfl (by rw [hml]; rfl) (argsL := [(.ref ta), (.int p1)]) (rest := []) (lenOf pd_4 rfl) rfl (by show 2 * 0 + _ ≤ _; exact Nat.le_of_eq rfl) (hb hby d15_21) (fun _ _ => ⟨rfl, e3, (by decide : 0 + 0 ≤ _), (by decide : 0 + 0 ≤ _)⟩)
 dsimp only [Pt.U, Pt.locs, Pt.cells, Pt.slots] at X4 l4 y4 z4 st4 hQ4
 subst l4 y4 z4
 obtain ⟨rfl, N4q, eh4⟩ := hQ4
 have N4 := Fr.app N1 N4q
 obtain ⟨fs, hr, hrun, hended, hW, hsame⟩ := X4.leave (v := some (.int (nar .char (fchU x y)))) (fun h => by rw [Bd.returns] at h; cases h)
 refine ⟨_, _, G2 _ ?_, hrun, hended, _, _, rfl, ?_, ⟨_, rfl⟩, hW, hsame.mono (by decide) (by decide)⟩
 ·skip
  refine XS.ifYes X1.here hx rfl (pc0 := 4) (pc' := 16) rfl (hb hby d15_4) rfl ((if0 _ _).trans (teq (by decide)).1) (by decide) (by decide) ?_
  refine XS.aloadN X1.here hx rfl (hb hby d15_16) rfl rfl ?_
  refine st3 _ ?_
  refine XS.iloadN X3.here hx rfl (hb hby d15_20) rfl ?_
  refine st4 _ ?_
  exact retN X4 hx (t := .char) Bd.returns (by simp) (hb hby d15_24) hr
 ·show QChU Z r0 p1 ta kk nn vs x y r cst fv h0 n0 _ T4.heap _
  rw [eh4]
  exact ⟨by rw [hres], N4, rfl⟩
theorem own_u16 (k : Int32) (h : 0 ≤ k.toInt ∧ k.toInt ≤ 65535) : fget (nar .byte ((k >>> ((0 : Int32) &&& 31)).toInt8.toInt32)) (nar .byte ((k >>> ((8 : Int32) &&& 31)).toInt8.toInt32)) = k := by
  have a0 := c_ishr k 0 0 (by decide)
  have a8 := c_ishr k 8 8 (by decide)
  have p0 : ((2 ^ 0 : Nat) : Int) = 1 := by decide
  have p8 : ((2 ^ 8 : Nat) : Int) = 256 := by decide
  rw [p0] at a0
  rw [p8] at a8
  generalize hx : k >>> ((0 : Int32) &&& 31) = x at a0 ⊢
  generalize hy : k >>> ((8 : Int32) &&& 31) = y at a8 ⊢
  have b0 := c_i2b x
  have b8 := c_i2b y
  have n0 : nar .byte (x.toInt8.toInt32) = x.toInt8.toInt32 := by show (x.toInt8.toInt32).toInt8.toInt32 = _; simp
  have n8 : nar .byte (y.toInt8.toInt32) = y.toInt8.toInt32 := by show (y.toInt8.toInt32).toInt8.toInt32 = _; simp
  rw [n0, n8, fget]
  generalize x.toInt8.toInt32 = u at b0 ⊢
  generalize y.toInt8.toInt32 = w at b8 ⊢
  have m0 := c_mask u 255 8 (by decide) (by decide)
  have m8 := c_mask w 255 8 (by decide) (by decide)
  rw [p8] at m0 m8
  generalize u &&& (255 : Int32) = s at m0 ⊢
  generalize w &&& (255 : Int32) = t at m8 ⊢
  have s0 := c_ishl s 0 0 (by decide)
  have s8 := c_ishl t 8 8 (by decide)
  rw [p0] at s0
  rw [p8] at s8
  have r0 := rng32 (s <<< ((0 : Int32) &&& 31))
  have r8 := rng32 (t <<< ((8 : Int32) &&& 31))
  generalize s <<< ((0 : Int32) &&& 31) = f at s0 r0 ⊢
  generalize t <<< ((8 : Int32) &&& 31) = g at s8 r8 ⊢
  have o := c_or' f g 8 (by decide) 256 (by decide) (by omega) (by omega) (by omega)
  have ro := rng32 (f ||| g)
  generalize f ||| g = q at o ro ⊢
  have c1 := c_i2c q
  generalize q.toUInt32.toUInt16.toUInt32.toInt32 = z at c1 ⊢
  have hz : z = k := Int32.toInt_inj.mp (by omega)
  rw [hz]
  exact own_narc k h

theorem own_lat (k : Int32) (h : 0 ≤ k.toInt ∧ k.toInt ≤ 65535) (hl : ¬ ((255 : Int32) < k)) : nar .char (fchL (nar .byte (k.toInt8.toInt32))) = k := by
  have e : (255 : Int32).toInt = 255 := by decide
  rw [Int32.lt_iff_toInt_lt, e] at hl
  have b0 := c_i2b k
  have n0 : nar .byte (k.toInt8.toInt32) = k.toInt8.toInt32 := by show (k.toInt8.toInt32).toInt8.toInt32 = _; simp
  have p8 : ((2 ^ 8 : Nat) : Int) = 256 := by decide
  rw [n0, fchL]
  generalize k.toInt8.toInt32 = u at b0 ⊢
  have m0 := c_mask u 255 8 (by decide) (by decide)
  rw [p8] at m0
  generalize u &&& (255 : Int32) = s at m0 ⊢
  have c1 := c_i2c s
  generalize s.toUInt32.toUInt16.toUInt32.toInt32 = z at c1 ⊢
  have hz : z = k := Int32.toInt_inj.mp (by omega)
  rw [hz, own_narc k h, own_narc k h]

theorem own_utf (k : Int32) (h : 0 ≤ k.toInt ∧ k.toInt ≤ 65535) : nar .char (fchU (nar .byte ((k >>> ((0 : Int32) &&& 31)).toInt8.toInt32)) (nar .byte ((k >>> ((8 : Int32) &&& 31)).toInt8.toInt32))) = k := by
  rw [fchU, own_u16 k h, own_narc k h, own_narc k h]

theorem d6_0 : decode jdk_52_method_21_code 0 = .ok (.iconst 0, 1) := by decide +kernel
theorem d6_1 : decode jdk_52_method_21_code 1 = .ok (.istore 5, 2) := by decide +kernel
theorem d6_3 : decode jdk_52_method_21_code 3 = .ok (.iload 5, 2) := by decide +kernel
theorem d6_5 : decode jdk_52_method_21_code 5 = .ok (.iload 4, 2) := by decide +kernel
theorem d6_7 : decode jdk_52_method_21_code 7 = .ok (.if_icmp .ge 37, 3) := by decide +kernel
theorem d6_10 : decode jdk_52_method_21_code 10 = .ok (.aload_n 0, 1) := by decide +kernel
theorem d6_11 : decode jdk_52_method_21_code 11 = .ok (.iload_n 1, 1) := by decide +kernel
theorem d6_12 : decode jdk_52_method_21_code 12 = .ok (.caload, 1) := by decide +kernel
theorem d6_13 : decode jdk_52_method_21_code 13 = .ok (.istore 6, 2) := by decide +kernel
theorem d6_15 : decode jdk_52_method_21_code 15 = .ok (.iload 6, 2) := by decide +kernel
theorem d6_17 : decode jdk_52_method_21_code 17 = .ok (.sipush 255, 3) := by decide +kernel
theorem d6_20 : decode jdk_52_method_21_code 20 = .ok (.if_icmp .le 6, 3) := by decide +kernel
theorem d6_23 : decode jdk_52_method_21_code 23 = .ok (.iload 5, 2) := by decide +kernel
theorem d6_25 : decode jdk_52_method_21_code 25 = .ok (.ireturn, 1) := by decide +kernel
theorem d6_26 : decode jdk_52_method_21_code 26 = .ok (.aload_n 2, 1) := by decide +kernel
theorem d6_27 : decode jdk_52_method_21_code 27 = .ok (.iload_n 3, 1) := by decide +kernel
theorem d6_28 : decode jdk_52_method_21_code 28 = .ok (.iload 6, 2) := by decide +kernel
theorem d6_30 : decode jdk_52_method_21_code 30 = .ok (.i2b, 1) := by decide +kernel
theorem d6_31 : decode jdk_52_method_21_code 31 = .ok (.bastore, 1) := by decide +kernel
theorem d6_32 : decode jdk_52_method_21_code 32 = .ok (.iinc 1 1, 3) := by decide +kernel
theorem d6_35 : decode jdk_52_method_21_code 35 = .ok (.iinc 3 1, 3) := by decide +kernel
theorem d6_38 : decode jdk_52_method_21_code 38 = .ok (.iinc 5 1, 3) := by decide +kernel
theorem d6_41 : decode jdk_52_method_21_code 41 = .ok (.goto (-38), 3) := by decide +kernel
theorem d6_44 : decode jdk_52_method_21_code 44 = .ok (.iload 4, 2) := by decide +kernel
theorem d6_46 : decode jdk_52_method_21_code 46 = .ok (.ireturn, 1) := by decide +kernel
def QC5_3 (Z : State) (r0 : Addr) (r2 : Addr) (c0 c1 c2 : Int32) (ks kd : ClassId) (h0 : Heap) (n0 : Nat) (v : Option Value) (h : Heap) (L : List Loc) : Prop := (v = some (.int (0 : Int32)) ∧ Fr n0 L ∧ Keep h0 h [r2] ∧ (255 : Int32) < c0) ∨ (v = some (.int (1 : Int32)) ∧ Fr n0 L ∧ Keep h0 h [r2] ∧ ¬ ((255 : Int32) < c0) ∧ (255 : Int32) < c1) ∨ (v = some (.int (2 : Int32)) ∧ Fr n0 L ∧ Keep h0 h [r2] ∧ ¬ ((255 : Int32) < c0) ∧ ¬ ((255 : Int32) < c1) ∧ (255 : Int32) < c2) ∨ (v = some (.int (3 : Int32)) ∧ Fr n0 L ∧ Keep h0 h [r2] ∧ ¬ ((255 : Int32) < c0) ∧ ¬ ((255 : Int32) < c1) ∧ ¬ ((255 : Int32) < c2) ∧ Arv Z h r2 kd .byte (3 : Int32) [(.int (nar .byte (c0.toInt8.toInt32))), (.int (nar .byte (c1.toInt8.toInt32))), (.int (nar .byte (c2.toInt8.toInt32)))] (.int (0 : Int32)))
theorem ef_rmC5_3 (m : MethodId) (x0 : Addr) (x1 : Int32) (x2 : Addr) (x3 : Int32) (x4 : Int32) : entryFrame m #[(.ref x0), (.int x1), (.ref x2), (.int x3), (.int x4)] 7 = mkF m 0 #[.val (.ref x0), .val (.int x1), .val (.ref x2), .val (.int x3), .val (.int x4), .unset, .unset] [] := by first | (simp [entryFrame, mkF, argsToLocals, Value.category]; done) | rfl
set_option maxRecDepth 65536 in
set_option maxHeartbeats 40000000 in
theorem rmC5_3 (l : Launch) (Z : State) (a0 : Array Value) (hw : ∀ d ∈ tables_1, d.before a0 Z = true) (ws : List Jvm.Cond) (r0 : Addr) (r2 : Addr) (c0 c1 c2 : Int32) (ks kd : ClassId) (h0 : Heap) (n0 : Nat) (Z0 : n0 ≤ h0.size) (Vs : Arv Z h0 r0 ks .char (3 : Int32) [(.int c0), (.int c1), (.int c2)] (.int (0 : Int32))) (Vd : Arv Z h0 r2 kd .byte (3 : Int32) [(.int (0 : Int32)), (.int (0 : Int32)), (.int (0 : Int32))] (.int (0 : Int32))) (hne : r0 ≠ r2) (g_r2 : n0 ≤ r2) :
  MetFree l (⟨"java/lang/StringUTF16", "compress", "([CI[BII)I"⟩ : MethodName) (head1 (Jvm.Cond.code (⟨"java/lang/StringUTF16", "compress", "([CI[BII)I"⟩ : MethodName) jdk_52_method_21_code 7 (some .int) :: ws) ({ frames := 0, cells := 0, slots := 0, locals := 0 } : Room)) (fun a U => a = #[(.ref r0), (.int (0 : Int32)), (.ref r2), (.int (0 : Int32)), (.int (3 : Int32))] ∧ Z.Warmed39 U.vm ∧ U.heap = h0) (fun _ _ _ _ _ => True) (fun _ U o U' => ∃ v L, o = .returned v ∧ QC5_3 Z r0 r2 c0 c1 c2 ks kd h0 n0 v U'.heap L ∧ FrameEnd U o U' L ({ frames := 0, cells := 0, slots := 0, locals := 0 } : Room).cells ({ frames := 0, cells := 0, slots := 0, locals := 0 } : Room).slots) := by
 refine MetFree.of_bodySF (plainFor_of_name pnc_java_lang_StringUTF16) hisR ?_
 intro p e s m args below meth c s₁ Bd hml0 hP hK
 obtain ⟨rfl, hZ, hh⟩ := hP
 have hx := Bd.exec
 have hby := Bd.bytes
 have hml : c.maxLocals = 7 := hml0
 have hown : s.vm.findClass "java/lang/StringUTF16" = some m.cls := findClass_of_methodNamed Bd.named
 have hnm := (name_of_methodNamed Bd.named Bd.method).1
 have X0 : Stand p l e ({ frames := 0, cells := 0, slots := 0, locals := 0 } : Room) s m #[(.ref r0), (.int (0 : Int32)), (.ref r2), (.int (0 : Int32)), (.int (3 : Int32))] below meth c s₁ [] 0 0 := Stand.of_body Bd
 have e0 : s₁.heap = h0 := by rw [← hh, Bd.state]; rfl
 have N0 := Fr.nil n0
 have kp0 : Keep h0 h0 [r2] := Keep.refl _ _
 have G0 : ∀ t, Steps p.tables e below (s₁.setTop (mkF m 0 #[rv r0, iv 0, rv r2, iv 0, iv 3, .unset, .unset] [])) t → Steps p.tables e below (s₁.setTop (entryFrame m #[(.ref r0), (.int (0 : Int32)), (.ref r2), (.int (0 : Int32)), (.int (3 : Int32))] 7)) t := fun t k => castTop (ef_rmC5_3 m r0 (0 : Int32) r2 (0 : Int32) (3 : Int32)) k
 have G1 : ∀ t, Steps p.tables e below (s₁.setTop (mkF m 7 #[rv r0, iv 0, rv r2, iv 0, iv 3, iv 0, .unset] [(.int (3 : Int32)), (.int (0 : Int32))])) t → Steps p.tables e below (s₁.setTop (entryFrame m #[(.ref r0), (.int (0 : Int32)), (.ref r2), (.int (0 : Int32)), (.int (3 : Int32))] 7)) t := by
  intro t kt
  refine G0 _ ?_
  refine XS.iconst X0.here hx rfl (hb hby d6_0) ?_
  refine XS.istore X0.here hx rfl (hb hby d6_1) rfl (l' := #[rv r0, iv 0, rv r2, iv 0, iv 3, iv 0, .unset]) rfl ?_
  refine XS.iload X0.here hx rfl (hb hby d6_3) rfl ?_
  refine XS.iload X0.here hx rfl (hb hby d6_5) rfl ?_
  exact kt
 obtain ⟨cl2, Ar2, q2, S2, M2, H2, G2⟩ := id Vs
 have hin2 : ¬ ((0 : Int32) < 0 ∨ cl2.slots.size ≤ ((0 : Int32)).toNatClampNeg) := inb_of S2 ⟨by decide, by decide⟩
 have hat2 : cl2.slots[((0 : Int32)).toNatClampNeg]? = some (.int c0) := H2.at hin2 rfl
 have G3 : ∀ t, Steps p.tables e below (s₁.setTop (mkF m 20 #[rv r0, iv 0, rv r2, iv 0, iv 3, iv 0, iv c0] [(.int (255 : Int32)), (.int c0)])) t → Steps p.tables e below (s₁.setTop (entryFrame m #[(.ref r0), (.int (0 : Int32)), (.ref r2), (.int (0 : Int32)), (.int (3 : Int32))] 7)) t := by
  intro t kt
  refine G1 _ ?_
  refine XS.icmpNo X0.here hx rfl (hb hby d6_7) rfl (tlt (by decide)).2.1 ?_
  refine XS.aloadN X0.here hx rfl (hb hby d6_10) rfl rfl ?_
  refine XS.iloadN X0.here hx rfl (hb hby d6_11) rfl ?_
  refine X0.caload hx (j := (0 : Int32)) (v := (.int c0)) (by rw [e0]; exact Ar2.1) (State.isArrayOf_alike hZ.alike Ar2.2.1) Ar2.2.2 hin2 hat2 (g := (mkF m 12 #[rv r0, iv 0, rv r2, iv 0, iv 3, iv 0, .unset] [(.int (0 : Int32)), (.ref r0)])) rfl rfl (hb hby d6_12) _ ?_
  refine XS.istore X0.here hx rfl (hb hby d6_13) rfl (l' := #[rv r0, iv 0, rv r2, iv 0, iv 3, iv 0, iv c0]) rfl ?_
  refine XS.iload X0.here hx rfl (hb hby d6_15) rfl ?_
  refine XS.sipush X0.here hx rfl (hb hby d6_17) ?_
  exact kt
 by_cases hc20_4 : (255 : Int32) < c0
 ·skip
  obtain ⟨fs, hr, hrun, hended, hW, hsame⟩ := X0.leave (v := some (.int (0 : Int32))) (fun h => by rw [Bd.returns] at h; cases h)
  refine ⟨_, _, G3 _ ?_, hrun, hended, _, _, rfl, ?_, ⟨_, rfl⟩, hW, hsame.mono (by decide) (by decide)⟩
  ·skip
   refine XS.icmpNo X0.here hx rfl (hb hby d6_20) rfl (tlt hc20_4).2.2.2 ?_
   refine XS.iload X0.here hx rfl (hb hby d6_23) rfl ?_
   exact retI X0 hx Bd.returns (hb hby d6_25) hr
  ·show QC5_3 Z r0 r2 c0 c1 c2 ks kd h0 n0 _ s₁.heap _
   rw [e0]
   exact Or.inl ⟨rfl, N0, kp0, hc20_4⟩
 ·skip
  obtain ⟨cl5, Ar5, q5, S5, M5, H5, G5⟩ := id Vd
  have hin5 : ¬ ((0 : Int32) < 0 ∨ cl5.slots.size ≤ ((0 : Int32)).toNatClampNeg) := inb_of S5 ⟨by decide, by decide⟩
  obtain ⟨T6, h6, X6, e6, W6, st6⟩ := stB X0 hx hZ e0 Ar5 (j := (0 : Int32)) hin5 (g := (mkF m 31 #[rv r0, iv 0, rv r2, iv 0, iv 3, iv 0, iv c0] [(.int (c0.toInt8.toInt32)), (.int (0 : Int32)), (.ref r2)])) rfl rfl (hb hby d6_31)
  have fa7 : Arv Z h6 r0 ks .char (3 : Int32) [(.int c0), (.int c1), (.int c2)] (.int (0 : Int32)) := Vs.other W6 hne
  have z8 : n0 ≤ h6.size := Nat.le_trans Z0 (Nat.le_of_eq W6.size.symm)
  have kp9 : Keep h0 h6 [r2] := kp0.wr W6 (Or.inl (List.mem_of_getElem? (i := 0) rfl))
  have fa10 : Arv Z h6 r2 kd .byte (3 : Int32) [(.int (nar .byte (c0.toInt8.toInt32))), (.int (0 : Int32)), (.int (0 : Int32))] (.int (0 : Int32)) := Arv.set Ar5 q5 S5 M5 H5 G5 (fits_nar_byte _) W6 0 rfl (Nat.le_of_ble_eq_true rfl)
  have N6 := Fr.snoc X6 N0 g_r2
  have G11 : ∀ t, Steps p.tables e below (T6.setTop (mkF m 7 #[rv r0, iv 1, rv r2, iv 1, iv 3, iv 1, iv c0] [(.int (3 : Int32)), (.int (1 : Int32))])) t → Steps p.tables e below (s₁.setTop (entryFrame m #[(.ref r0), (.int (0 : Int32)), (.ref r2), (.int (0 : Int32)), (.int (3 : Int32))] 7)) t := by
   intro t kt
   refine G3 _ ?_
   refine XS.icmpYes X0.here hx rfl (pc0 := 20) (pc' := 26) rfl (hb hby d6_20) rfl (flt hc20_4).2.2.2 (by decide) (by decide) ?_
   refine XS.aloadN X0.here hx rfl (hb hby d6_26) rfl rfl ?_
   refine XS.iloadN X0.here hx rfl (hb hby d6_27) rfl ?_
   refine XS.iload X0.here hx rfl (hb hby d6_28) rfl ?_
   refine XS.i2b X0.here hx rfl (hb hby d6_30) rfl ?_
   refine st6 _ ?_
   refine XS.iinc X6.here hx rfl (hb hby d6_32) rfl (l' := #[rv r0, iv 1, rv r2, iv 0, iv 3, iv 0, iv c0]) rfl ?_
   refine XS.iinc X6.here hx rfl (hb hby d6_35) rfl (l' := #[rv r0, iv 1, rv r2, iv 1, iv 3, iv 0, iv c0]) rfl ?_
   refine XS.iinc X6.here hx rfl (hb hby d6_38) rfl (l' := #[rv r0, iv 1, rv r2, iv 1, iv 3, iv 1, iv c0]) rfl ?_
   refine XS.goto X6.here hx rfl (pc0 := 41) (pc' := 3) rfl (hb hby d6_41) (by decide) (by decide) ?_
   show Steps p.tables e below (T6.setTop (mkF m 3 #[rv r0, iv 1, rv r2, iv 1, iv 3, iv 1, iv c0] [])) _
   refine XS.iload X6.here hx rfl (hb hby d6_3) rfl ?_
   refine XS.iload X6.here hx rfl (hb hby d6_5) rfl ?_
   exact kt
  obtain ⟨cl12, Ar12, q12, S12, M12, H12, G12⟩ := id fa7
  have hin12 : ¬ ((1 : Int32) < 0 ∨ cl12.slots.size ≤ ((1 : Int32)).toNatClampNeg) := inb_of S12 ⟨by decide, by decide⟩
  have hat12 : cl12.slots[((1 : Int32)).toNatClampNeg]? = some (.int c1) := H12.at hin12 rfl
  have G13 : ∀ t, Steps p.tables e below (T6.setTop (mkF m 20 #[rv r0, iv 1, rv r2, iv 1, iv 3, iv 1, iv c1] [(.int (255 : Int32)), (.int c1)])) t → Steps p.tables e below (s₁.setTop (entryFrame m #[(.ref r0), (.int (0 : Int32)), (.ref r2), (.int (0 : Int32)), (.int (3 : Int32))] 7)) t := by
   intro t kt
   refine G11 _ ?_
   refine XS.icmpNo X6.here hx rfl (hb hby d6_7) rfl (tlt (by decide)).2.1 ?_
   refine XS.aloadN X6.here hx rfl (hb hby d6_10) rfl rfl ?_
   refine XS.iloadN X6.here hx rfl (hb hby d6_11) rfl ?_
   refine X6.caload hx (j := (1 : Int32)) (v := (.int c1)) (by rw [e6]; exact Ar12.1) (State.isArrayOf_alike hZ.alike Ar12.2.1) Ar12.2.2 hin12 hat12 (g := (mkF m 12 #[rv r0, iv 1, rv r2, iv 1, iv 3, iv 1, iv c0] [(.int (1 : Int32)), (.ref r0)])) rfl rfl (hb hby d6_12) _ ?_
   refine XS.istore X6.here hx rfl (hb hby d6_13) rfl (l' := #[rv r0, iv 1, rv r2, iv 1, iv 3, iv 1, iv c1]) rfl ?_
   refine XS.iload X6.here hx rfl (hb hby d6_15) rfl ?_
   refine XS.sipush X6.here hx rfl (hb hby d6_17) ?_
   exact kt
  by_cases hc20_14 : (255 : Int32) < c1
  ·skip
   obtain ⟨fs, hr, hrun, hended, hW, hsame⟩ := X6.leave (v := some (.int (1 : Int32))) (fun h => by rw [Bd.returns] at h; cases h)
   refine ⟨_, _, G13 _ ?_, hrun, hended, _, _, rfl, ?_, ⟨_, rfl⟩, hW, hsame.mono (by decide) (by decide)⟩
   ·skip
    refine XS.icmpNo X6.here hx rfl (hb hby d6_20) rfl (tlt hc20_14).2.2.2 ?_
    refine XS.iload X6.here hx rfl (hb hby d6_23) rfl ?_
    exact retI X6 hx Bd.returns (hb hby d6_25) hr
   ·show QC5_3 Z r0 r2 c0 c1 c2 ks kd h0 n0 _ T6.heap _
    rw [e6]
    exact Or.inr (Or.inl ⟨rfl, N6, kp9, hc20_4, hc20_14⟩)
  ·skip
   obtain ⟨cl15, Ar15, q15, S15, M15, H15, G15⟩ := id fa10
   have hin15 : ¬ ((1 : Int32) < 0 ∨ cl15.slots.size ≤ ((1 : Int32)).toNatClampNeg) := inb_of S15 ⟨by decide, by decide⟩
   obtain ⟨T16, h16, X16, e16, W16, st16⟩ := stB X6 hx hZ e6 Ar15 (j := (1 : Int32)) hin15 (g := (mkF m 31 #[rv r0, iv 1, rv r2, iv 1, iv 3, iv 1, iv c1] [(.int (c1.toInt8.toInt32)), (.int (1 : Int32)), (.ref r2)])) rfl rfl (hb hby d6_31)
   have fa17 : Arv Z h16 r0 ks .char (3 : Int32) [(.int c0), (.int c1), (.int c2)] (.int (0 : Int32)) := fa7.other W16 hne
   have z18 : n0 ≤ h16.size := Nat.le_trans z8 (Nat.le_of_eq W16.size.symm)
   have kp19 : Keep h0 h16 [r2] := kp9.wr W16 (Or.inl (List.mem_of_getElem? (i := 0) rfl))
   have fa20 : Arv Z h16 r2 kd .byte (3 : Int32) [(.int (nar .byte (c0.toInt8.toInt32))), (.int (nar .byte (c1.toInt8.toInt32))), (.int (0 : Int32))] (.int (0 : Int32)) := Arv.set Ar15 q15 S15 M15 H15 G15 (fits_nar_byte _) W16 1 rfl (Nat.le_of_ble_eq_true rfl)
   have N16 := Fr.snoc X16 N6 g_r2
   have G21 : ∀ t, Steps p.tables e below (T16.setTop (mkF m 7 #[rv r0, iv 2, rv r2, iv 2, iv 3, iv 2, iv c1] [(.int (3 : Int32)), (.int (2 : Int32))])) t → Steps p.tables e below (s₁.setTop (entryFrame m #[(.ref r0), (.int (0 : Int32)), (.ref r2), (.int (0 : Int32)), (.int (3 : Int32))] 7)) t := by
    intro t kt
    refine G13 _ ?_
    refine XS.icmpYes X6.here hx rfl (pc0 := 20) (pc' := 26) rfl (hb hby d6_20) rfl (flt hc20_14).2.2.2 (by decide) (by decide) ?_
    refine XS.aloadN X6.here hx rfl (hb hby d6_26) rfl rfl ?_
    refine XS.iloadN X6.here hx rfl (hb hby d6_27) rfl ?_
    refine XS.iload X6.here hx rfl (hb hby d6_28) rfl ?_
    refine XS.i2b X6.here hx rfl (hb hby d6_30) rfl ?_
    refine st16 _ ?_
    refine XS.iinc X16.here hx rfl (hb hby d6_32) rfl (l' := #[rv r0, iv 2, rv r2, iv 1, iv 3, iv 1, iv c1]) rfl ?_
    refine XS.iinc X16.here hx rfl (hb hby d6_35) rfl (l' := #[rv r0, iv 2, rv r2, iv 2, iv 3, iv 1, iv c1]) rfl ?_
    refine XS.iinc X16.here hx rfl (hb hby d6_38) rfl (l' := #[rv r0, iv 2, rv r2, iv 2, iv 3, iv 2, iv c1]) rfl ?_
    refine XS.goto X16.here hx rfl (pc0 := 41) (pc' := 3) rfl (hb hby d6_41) (by decide) (by decide) ?_
    refine XS.iload X16.here hx rfl (hb hby d6_3) rfl ?_
    refine XS.iload X16.here hx rfl (hb hby d6_5) rfl ?_
    exact kt
   obtain ⟨cl22, Ar22, q22, S22, M22, H22, G22⟩ := id fa17
   have hin22 : ¬ ((2 : Int32) < 0 ∨ cl22.slots.size ≤ ((2 : Int32)).toNatClampNeg) := inb_of S22 ⟨by decide, by decide⟩
   have hat22 : cl22.slots[((2 : Int32)).toNatClampNeg]? = some (.int c2) := H22.at hin22 rfl
   have G23 : ∀ t, Steps p.tables e below (T16.setTop (mkF m 20 #[rv r0, iv 2, rv r2, iv 2, iv 3, iv 2, iv c2] [(.int (255 : Int32)), (.int c2)])) t → Steps p.tables e below (s₁.setTop (entryFrame m #[(.ref r0), (.int (0 : Int32)), (.ref r2), (.int (0 : Int32)), (.int (3 : Int32))] 7)) t := by
    intro t kt
    refine G21 _ ?_
    refine XS.icmpNo X16.here hx rfl (hb hby d6_7) rfl (tlt (by decide)).2.1 ?_
    refine XS.aloadN X16.here hx rfl (hb hby d6_10) rfl rfl ?_
    show Steps p.tables e below (T16.setTop (mkF m 11 #[rv r0, iv 2, rv r2, iv 2, iv 3, iv 2, iv c1] [(.ref r0)])) _
    refine XS.iloadN X16.here hx rfl (hb hby d6_11) rfl ?_
    refine X16.caload hx (j := (2 : Int32)) (v := (.int c2)) (by rw [e16]; exact Ar22.1) (State.isArrayOf_alike hZ.alike Ar22.2.1) Ar22.2.2 hin22 hat22 (g := (mkF m 12 #[rv r0, iv 2, rv r2, iv 2, iv 3, iv 2, iv c1] [(.int (2 : Int32)), (.ref r0)])) rfl rfl (hb hby d6_12) _ ?_
    refine XS.istore X16.here hx rfl (hb hby d6_13) rfl (l' := #[rv r0, iv 2, rv r2, iv 2, iv 3, iv 2, iv c2]) rfl ?_
    refine XS.iload X16.here hx rfl (hb hby d6_15) rfl ?_
    refine XS.sipush X16.here hx rfl (hb hby d6_17) ?_
    exact kt
   by_cases hc20_24 : (255 : Int32) < c2
   ·skip
    obtain ⟨fs, hr, hrun, hended, hW, hsame⟩ := X16.leave (v := some (.int (2 : Int32))) (fun h => by rw [Bd.returns] at h; cases h)
    refine ⟨_, _, G23 _ ?_, hrun, hended, _, _, rfl, ?_, ⟨_, rfl⟩, hW, hsame.mono (by decide) (by decide)⟩
    ·skip
     refine XS.icmpNo X16.here hx rfl (hb hby d6_20) rfl (tlt hc20_24).2.2.2 ?_
     refine XS.iload X16.here hx rfl (hb hby d6_23) rfl ?_
     exact retI X16 hx Bd.returns (hb hby d6_25) hr
    ·show QC5_3 Z r0 r2 c0 c1 c2 ks kd h0 n0 _ T16.heap _
     rw [e16]
     exact Or.inr (Or.inr (Or.inl ⟨rfl, N16, kp19, hc20_4, hc20_14, hc20_24⟩))
   ·skip
    obtain ⟨cl25, Ar25, q25, S25, M25, H25, G25⟩ := id fa20
    have hin25 : ¬ ((2 : Int32) < 0 ∨ cl25.slots.size ≤ ((2 : Int32)).toNatClampNeg) := inb_of S25 ⟨by decide, by decide⟩
    obtain ⟨T26, h26, X26, e26, W26, st26⟩ := stB X16 hx hZ e16 Ar25 (j := (2 : Int32)) hin25 (g := (mkF m 31 #[rv r0, iv 2, rv r2, iv 2, iv 3, iv 2, iv c2] [(.int (c2.toInt8.toInt32)), (.int (2 : Int32)), (.ref r2)])) rfl rfl (hb hby d6_31)
    have fa27 : Arv Z h26 r0 ks .char (3 : Int32) [(.int c0), (.int c1), (.int c2)] (.int (0 : Int32)) := fa17.other W26 hne
    have z28 : n0 ≤ h26.size := Nat.le_trans z18 (Nat.le_of_eq W26.size.symm)
    have kp29 : Keep h0 h26 [r2] := kp19.wr W26 (Or.inl (List.mem_of_getElem? (i := 0) rfl))
    have fa30 : Arv Z h26 r2 kd .byte (3 : Int32) [(.int (nar .byte (c0.toInt8.toInt32))), (.int (nar .byte (c1.toInt8.toInt32))), (.int (nar .byte (c2.toInt8.toInt32)))] (.int (0 : Int32)) := Arv.set Ar25 q25 S25 M25 H25 G25 (fits_nar_byte _) W26 2 rfl (Nat.le_of_ble_eq_true rfl)
    have N26 := Fr.snoc X26 N16 g_r2
    have G31 : ∀ t, Steps p.tables e below (T26.setTop (mkF m 7 #[rv r0, iv 3, rv r2, iv 3, iv 3, iv 3, iv c2] [(.int (3 : Int32)), (.int (3 : Int32))])) t → Steps p.tables e below (s₁.setTop (entryFrame m #[(.ref r0), (.int (0 : Int32)), (.ref r2), (.int (0 : Int32)), (.int (3 : Int32))] 7)) t := by
     intro t kt
     refine G23 _ ?_
     refine XS.icmpYes X16.here hx rfl (pc0 := 20) (pc' := 26) rfl (hb hby d6_20) rfl (flt hc20_24).2.2.2 (by decide) (by decide) ?_
     refine XS.aloadN X16.here hx rfl (hb hby d6_26) rfl rfl ?_
     refine XS.iloadN X16.here hx rfl (hb hby d6_27) rfl ?_
     refine XS.iload X16.here hx rfl (hb hby d6_28) rfl ?_
     refine XS.i2b X16.here hx rfl (hb hby d6_30) rfl ?_
     refine st26 _ ?_
     refine XS.iinc X26.here hx rfl (hb hby d6_32) rfl (l' := #[rv r0, iv 3, rv r2, iv 2, iv 3, iv 2, iv c2]) rfl ?_
     refine XS.iinc X26.here hx rfl (hb hby d6_35) rfl (l' := #[rv r0, iv 3, rv r2, iv 3, iv 3, iv 2, iv c2]) rfl ?_
     refine XS.iinc X26.here hx rfl (hb hby d6_38) rfl (l' := #[rv r0, iv 3, rv r2, iv 3, iv 3, iv 3, iv c2]) rfl ?_
     refine XS.goto X26.here hx rfl (pc0 := 41) (pc' := 3) rfl (hb hby d6_41) (by decide) (by decide) ?_
     refine XS.iload X26.here hx rfl (hb hby d6_3) rfl ?_
     refine XS.iload X26.here hx rfl (hb hby d6_5) rfl ?_
     exact kt
    obtain ⟨fs, hr, hrun, hended, hW, hsame⟩ := X26.leave (v := some (.int (3 : Int32))) (fun h => by rw [Bd.returns] at h; cases h)
    refine ⟨_, _, G31 _ ?_, hrun, hended, _, _, rfl, ?_, ⟨_, rfl⟩, hW, hsame.mono (by decide) (by decide)⟩
    ·skip
     refine XS.icmpYes X26.here hx rfl (pc0 := 7) (pc' := 44) rfl (hb hby d6_7) rfl (flt (by decide)).2.1 (by decide) (by decide) ?_
     refine XS.iload X26.here hx rfl (hb hby d6_44) rfl ?_
     exact retI X26 hx Bd.returns (hb hby d6_46) hr
    ·show QC5_3 Z r0 r2 c0 c1 c2 ks kd h0 n0 _ T26.heap _
     rw [e26]
     exact Or.inr (Or.inr (Or.inr (⟨rfl, N26, kp29, hc20_4, hc20_14, hc20_24, fa30⟩)))
theorem d10_0 : decode jdk_52_method_2_code 0 = .ok (.iload_n 0, 1) := by decide +kernel
theorem d10_1 : decode jdk_52_method_2_code 1 = .ok (.invokestatic 11, 3) := by decide +kernel
theorem pd_6 : parseMethodDescriptor "(I)I" = some ⟨[.int], some .int⟩ := by decide +kernel
theorem d10_4 : decode jdk_52_method_2_code 4 = .ok (.newarray .byte, 2) := by decide +kernel
theorem d10_6 : decode jdk_52_method_2_code 6 = .ok (.areturn, 1) := by decide +kernel
def QNB_3 (Z : State)  (h0 : Heap) (n0 : Nat) (v : Option Value) (h : Heap) (L : List Loc) : Prop := ∃ (b : Addr) (k : ClassId), v = some (.ref b) ∧ Fr n0 L ∧ Keep h0 h [] ∧ n0 ≤ b ∧ h0.size ≤ b ∧ Arv Z h b k .byte (6 : Int32) [(.int (0 : Int32)), (.int (0 : Int32)), (.int (0 : Int32)), (.int (0 : Int32)), (.int (0 : Int32)), (.int (0 : Int32))] (.int (0 : Int32))
theorem ef_rmNB_3 (m : MethodId) (x0 : Int32) : entryFrame m #[(.int x0)] 1 = mkF m 0 #[.val (.int x0)] [] := by first | (simp [entryFrame, mkF, argsToLocals, Value.category]; done) | rfl
set_option maxRecDepth 65536 in
set_option maxHeartbeats 40000000 in
theorem rmNB_3 (l : Launch) (Z : State) (a0 : Array Value) (hw : ∀ d ∈ tables_1, d.before a0 Z = true) (ws : List Jvm.Cond)  (h0 : Heap) (n0 : Nat) (Z0 : n0 ≤ h0.size) :
  MetFree l (⟨"java/lang/StringUTF16", "newBytesFor", "(I)[B"⟩ : MethodName) (head1 (Jvm.Cond.code (⟨"java/lang/StringUTF16", "newBytesFor", "(I)[B"⟩ : MethodName) jdk_52_method_2_code 1 (some (.array .byte)) :: ws) ({ frames := 1, cells := 1, slots := 6, locals := 12 } : Room)) (fun a U => a = #[(.int (3 : Int32))] ∧ Z.Warmed39 U.vm ∧ U.heap = h0) (fun _ _ _ _ _ => True) (fun _ U o U' => ∃ v L, o = .returned v ∧ QNB_3 Z  h0 n0 v U'.heap L ∧ FrameEnd U o U' L ({ frames := 1, cells := 1, slots := 6, locals := 12 } : Room).cells ({ frames := 1, cells := 1, slots := 6, locals := 12 } : Room).slots) := by
 refine MetFree.of_bodySF (plainFor_of_name pnc_java_lang_StringUTF16) hisR ?_
 intro p e s m args below meth c s₁ Bd hml0 hP hK
 obtain ⟨rfl, hZ, hh⟩ := hP
 have hx := Bd.exec
 have hby := Bd.bytes
 have hml : c.maxLocals = 1 := hml0
 have hown : s.vm.findClass "java/lang/StringUTF16" = some m.cls := findClass_of_methodNamed Bd.named
 have hnm := (name_of_methodNamed Bd.named Bd.method).1
 have X0 : Stand p l e ({ frames := 1, cells := 1, slots := 6, locals := 12 } : Room) s m #[(.int (3 : Int32))] below meth c s₁ [] 0 0 := Stand.of_body Bd
 have e0 : s₁.heap = h0 := by rw [← hh, Bd.state]; rfl
 have N0 := Fr.nil n0
 have kp0 : Keep h0 h0 [] := Keep.refl _ _
 have G0 : ∀ t, Steps p.tables e below (s₁.setTop (mkF m 0 #[iv 3] [])) t → Steps p.tables e below (s₁.setTop (entryFrame m #[(.int (3 : Int32))] 1)) t := fun t k => castTop (ef_rmNB_3 m (3 : Int32)) k
 obtain ⟨_, _, ⟨T1, L1, k1, n1⟩, -, X1, ⟨Lc1, hQ1, l1, y1, z1⟩, st1⟩ := Jvm.LawKit.callS X0 hx (y := (⟨"java/lang/StringUTF16", "newBytesLength", "(I)I"⟩ : MethodName)) hown (mvT hZ (hw _ (List.mem_of_getElem? (i := 46) rfl))) (mvT hZ (hw _ (List.mem_of_getElem? (i := 47) rfl))) (mvT hZ (hw _ (List.mem_of_getElem? (i := 22) rfl))) (mvT hZ (hw _ (List.mem_of_getElem? (i := 48) rfl))) (by decide) (backOf (W := 0) (rm11 l Z a0 hw [] (3 : Int32)  h0 n0 Z0 (by decide) (by decide)) hZ (hw _ (List.mem_of_getElem? (i := 48) rfl)) (hw _ (List.mem_of_getElem? (i := 22) rfl)) (by decide) (by decide)) (g := (mkF m 1 #[iv 3] [(.int (3 : Int32))])) rfl (by rw [hml]; rfl) (argsL := [(.int (3 : Int32))]) (rest := []) (lenOf pd_6 rfl) rfl (by show 2 * 0 + _ ≤ _; exact Nat.le_of_eq rfl) (hb hby d10_1) (fun _ _ => ⟨rfl, e0, (by decide : 0 + 0 ≤ _), (by decide : 0 + 0 ≤ _)⟩)
 dsimp only [Pt.U, Pt.locs, Pt.cells, Pt.slots] at X1 l1 y1 z1 st1 hQ1
 subst l1 y1 z1
 obtain ⟨rfl, N1q, eh1⟩ := hQ1
 have N1 := Fr.app N0 N1q
 obtain ⟨T2, h2, k2, X2, e2, E2, A2, st2⟩ := newP X1 hx hZ (hw _ (List.mem_of_getElem? (i := 24) rfl)) eh1 (g := (mkF m 4 #[iv 3] [(.int (6 : Int32))])) rfl (hb hby d10_4) rfl (by decide) (cap := 6) (by decide) (by decide) (by decide) (by decide)
 obtain ⟨b2, g2⟩ : ∃ z, z = h0.size := ⟨_, rfl⟩
 rw [← g2] at A2 st2
 have g_b2 : n0 ≤ b2 := Nat.le_trans Z0 (Nat.le_of_eq g2.symm)
 have sz_b2 : h0.size ≤ b2 := Nat.le_trans kp0.1 (Nat.le_of_eq g2.symm)
 have z3 : n0 ≤ h2.size := Nat.le_trans Z0 E2.1
 have kp4 : Keep h0 h2 [] := kp0.ext E2
 have fa5 : Arv Z h2 b2 k2 .byte (6 : Int32) [(.int (0 : Int32)), (.int (0 : Int32)), (.int (0 : Int32)), (.int (0 : Int32)), (.int (0 : Int32)), (.int (0 : Int32))] (.int (0 : Int32)) := (Arv.new A2 (by decide)).pad (pad_rep [] (.int (0 : Int32)) 6)
 obtain ⟨fs, hr, hrun, hended, hW, hsame⟩ := X2.leave (v := some (.ref b2)) (fun h => by rw [Bd.returns] at h; cases h)
 refine ⟨_, _, G0 _ ?_, hrun, hended, _, _, rfl, ?_, ⟨_, rfl⟩, hW, hsame.mono (by decide) (by decide)⟩
 ·skip
  refine XS.iloadN X0.here hx rfl (hb hby d10_0) rfl ?_
  refine st1 _ ?_
  refine st2 _ ?_
  exact retOut X2 hx Bd.returns rfl (Or.inr (Or.inr (Or.inr (Or.inr ⟨rfl, rfl, rfl⟩)))) (hb hby d10_6) hr
 ·show QNB_3 Z  h0 n0 _ T2.heap _
  rw [e2]
  exact ⟨b2, k2, rfl, N1, kp4, g_b2, sz_b2, fa5⟩
theorem d9_0 : decode jdk_52_method_14_code 0 = .ok (.iload_n 2, 1) := by decide +kernel
theorem d9_1 : decode jdk_52_method_14_code 1 = .ok (.invokestatic 107, 3) := by decide +kernel
theorem pd_7 : parseMethodDescriptor "(I)[B" = some ⟨[.int], some (.array .byte)⟩ := by decide +kernel
theorem d9_4 : decode jdk_52_method_14_code 4 = .ok (.astore_n 3, 1) := by decide +kernel
theorem d9_5 : decode jdk_52_method_14_code 5 = .ok (.iconst 0, 1) := by decide +kernel
theorem d9_6 : decode jdk_52_method_14_code 6 = .ok (.istore 4, 2) := by decide +kernel
theorem d9_8 : decode jdk_52_method_14_code 8 = .ok (.iload 4, 2) := by decide +kernel
theorem d9_10 : decode jdk_52_method_14_code 10 = .ok (.iload_n 2, 1) := by decide +kernel
theorem d9_11 : decode jdk_52_method_14_code 11 = .ok (.if_icmp .ge 21, 3) := by decide +kernel
theorem d9_14 : decode jdk_52_method_14_code 14 = .ok (.aload_n 3, 1) := by decide +kernel
theorem d9_15 : decode jdk_52_method_14_code 15 = .ok (.iload 4, 2) := by decide +kernel
theorem d9_17 : decode jdk_52_method_14_code 17 = .ok (.aload_n 0, 1) := by decide +kernel
theorem d9_18 : decode jdk_52_method_14_code 18 = .ok (.iload_n 1, 1) := by decide +kernel
theorem d9_19 : decode jdk_52_method_14_code 19 = .ok (.caload, 1) := by decide +kernel
theorem d9_20 : decode jdk_52_method_14_code 20 = .ok (.invokestatic 111, 3) := by decide +kernel
theorem pd_8 : parseMethodDescriptor "([BII)V" = some ⟨[(.array .byte), .int, .int], none⟩ := by decide +kernel
theorem d9_23 : decode jdk_52_method_14_code 23 = .ok (.iinc 1 1, 3) := by decide +kernel
theorem d9_26 : decode jdk_52_method_14_code 26 = .ok (.iinc 4 1, 3) := by decide +kernel
theorem d9_29 : decode jdk_52_method_14_code 29 = .ok (.goto (-21), 3) := by decide +kernel
theorem d9_32 : decode jdk_52_method_14_code 32 = .ok (.aload_n 3, 1) := by decide +kernel
theorem d9_33 : decode jdk_52_method_14_code 33 = .ok (.areturn, 1) := by decide +kernel
def QTB_3 (Z : State) (r0 : Addr) (c0 c1 c2 : Int32) (ks : ClassId) (cst : Int32) (fv : Value) (h0 : Heap) (n0 : Nat) (v : Option Value) (h : Heap) (L : List Loc) : Prop := ∃ (b : Addr) (k : ClassId), v = some (.ref b) ∧ Fr n0 L ∧ Keep h0 h [] ∧ n0 ≤ b ∧ h0.size ≤ b ∧ Arv Z h b k .byte (6 : Int32) [(.int (nar .byte ((c0 >>> ((0 : Int32) &&& 31)).toInt8.toInt32))), (.int (nar .byte ((c0 >>> ((8 : Int32) &&& 31)).toInt8.toInt32))), (.int (nar .byte ((c1 >>> ((0 : Int32) &&& 31)).toInt8.toInt32))), (.int (nar .byte ((c1 >>> ((8 : Int32) &&& 31)).toInt8.toInt32))), (.int (nar .byte ((c2 >>> ((0 : Int32) &&& 31)).toInt8.toInt32))), (.int (nar .byte ((c2 >>> ((8 : Int32) &&& 31)).toInt8.toInt32)))] (.int (0 : Int32))
theorem ef_rmTB_3 (m : MethodId) (x0 : Addr) (x1 : Int32) (x2 : Int32) : entryFrame m #[(.ref x0), (.int x1), (.int x2)] 5 = mkF m 0 #[.val (.ref x0), .val (.int x1), .val (.int x2), .unset, .unset] [] := by first | (simp [entryFrame, mkF, argsToLocals, Value.category]; done) | rfl
set_option maxRecDepth 65536 in
set_option maxHeartbeats 40000000 in
theorem rmTB_3 (l : Launch) (Z : State) (a0 : Array Value) (hw : ∀ d ∈ tables_1, d.before a0 Z = true) (ws : List Jvm.Cond) (r0 : Addr) (c0 c1 c2 : Int32) (ks : ClassId) (cst : Int32) (fv : Value) (h0 : Heap) (n0 : Nat) (Z0 : n0 ≤ h0.size) (Vs : Arv Z h0 r0 ks .char (3 : Int32) [(.int c0), (.int c1), (.int c2)] (.int (0 : Int32))) (O0 : Old Z n0 h0) (SS : Sts Z cst fv) :
  MetFree l (⟨"java/lang/StringUTF16", "toBytes", "([CII)[B"⟩ : MethodName) (head1 (Jvm.Cond.code (⟨"java/lang/StringUTF16", "toBytes", "([CII)[B"⟩ : MethodName) jdk_52_method_14_code 5 (some (.array .byte)) :: ws) ({ frames := 2, cells := 1, slots := 6, locals := 24 } : Room)) (fun a U => a = #[(.ref r0), (.int (0 : Int32)), (.int (3 : Int32))] ∧ Z.Warmed39 U.vm ∧ U.heap = h0) (fun _ _ _ _ _ => True) (fun _ U o U' => ∃ v L, o = .returned v ∧ QTB_3 Z r0 c0 c1 c2 ks cst fv h0 n0 v U'.heap L ∧ FrameEnd U o U' L ({ frames := 2, cells := 1, slots := 6, locals := 24 } : Room).cells ({ frames := 2, cells := 1, slots := 6, locals := 24 } : Room).slots) := by
 refine MetFree.of_bodySF (plainFor_of_name pnc_java_lang_StringUTF16) hisR ?_
 intro p e s m args below meth c s₁ Bd hml0 hP hK
 obtain ⟨rfl, hZ, hh⟩ := hP
 have hx := Bd.exec
 have hby := Bd.bytes
 have hml : c.maxLocals = 5 := hml0
 have hown : s.vm.findClass "java/lang/StringUTF16" = some m.cls := findClass_of_methodNamed Bd.named
 have hnm := (name_of_methodNamed Bd.named Bd.method).1
 have X0 : Stand p l e ({ frames := 2, cells := 1, slots := 6, locals := 24 } : Room) s m #[(.ref r0), (.int (0 : Int32)), (.int (3 : Int32))] below meth c s₁ [] 0 0 := Stand.of_body Bd
 have e0 : s₁.heap = h0 := by rw [← hh, Bd.state]; rfl
 have N0 := Fr.nil n0
 have kp0 : Keep h0 h0 [] := Keep.refl _ _
 have G0 : ∀ t, Steps p.tables e below (s₁.setTop (mkF m 0 #[rv r0, iv 0, iv 3, .unset, .unset] [])) t → Steps p.tables e below (s₁.setTop (entryFrame m #[(.ref r0), (.int (0 : Int32)), (.int (3 : Int32))] 5)) t := fun t k => castTop (ef_rmTB_3 m r0 (0 : Int32) (3 : Int32)) k
 obtain ⟨_, _, ⟨T1, L1, k1, n1⟩, -, X1, ⟨Lc1, hQ1, l1, y1, z1⟩, st1⟩ := Jvm.LawKit.callS X0 hx (y := (⟨"java/lang/StringUTF16", "newBytesFor", "(I)[B"⟩ : MethodName)) hown (mvT hZ (hw _ (List.mem_of_getElem? (i := 43) rfl))) (mvT hZ (hw _ (List.mem_of_getElem? (i := 44) rfl))) (mvT hZ (hw _ (List.mem_of_getElem? (i := 22) rfl))) (mvT hZ (hw _ (List.mem_of_getElem? (i := 45) rfl))) (by decide) (backOf (W := 0) (rmNB_3 l Z a0 hw []   h0 n0 Z0 ) hZ (hw _ (List.mem_of_getElem? (i := 45) rfl)) (hw _ (List.mem_of_getElem? (i := 22) rfl)) (by decide) (by decide)) (g := (mkF m 1 #[rv r0, iv 0, iv 3, .unset, .unset] [(.int (3 : Int32))])) rfl (by rw [hml]; rfl) (argsL := [(.int (3 : Int32))]) (rest := []) (lenOf pd_7 rfl) rfl (by show 2 * 0 + _ ≤ _; exact Nat.le_of_eq rfl) (hb hby d9_1) (fun _ _ => ⟨rfl, e0, (by decide : 0 + 1 ≤ _), (by decide : 0 + 6 ≤ _)⟩)
 dsimp only [Pt.U, Pt.locs, Pt.cells, Pt.slots] at X1 l1 y1 z1 st1 hQ1
 subst l1 y1 z1
 obtain ⟨b1, kb1, rfl, N1q, K1, g_b1, sz1, V1⟩ := hQ1
 have N1 := Fr.app N0 N1q
 have szk1 : h0.size ≤ b1 := Nat.le_trans kp0.1 sz1
 have ne_r0_b1 : r0 ≠ b1 := Nat.ne_of_lt (Nat.lt_of_lt_of_le Vs.lt sz1)
 have fa2 : Arv Z T1.heap r0 ks .char (3 : Int32) [(.int c0), (.int c1), (.int c2)] (.int (0 : Int32)) := Vs.keep K1 nin0
 have fa3 : Old Z n0 T1.heap := O0.keep K1 all0
 have z4 : n0 ≤ T1.heap.size := Nat.le_trans Z0 K1.1
 have kp5 : Keep h0 T1.heap [] := kp0.trans K1 all0
 have G6 : ∀ t, Steps p.tables e below (T1.setTop (mkF m 11 #[rv r0, iv 0, iv 3, rv b1, iv 0] [(.int (3 : Int32)), (.int (0 : Int32))])) t → Steps p.tables e below (s₁.setTop (entryFrame m #[(.ref r0), (.int (0 : Int32)), (.int (3 : Int32))] 5)) t := by
  intro t kt
  refine G0 _ ?_
  refine XS.iloadN X0.here hx rfl (hb hby d9_0) rfl ?_
  refine st1 _ ?_
  refine XS.astoreN X1.here hx rfl (hb hby d9_4) rfl rfl (l' := #[rv r0, iv 0, iv 3, rv b1, .unset]) rfl ?_
  refine XS.iconst X1.here hx rfl (hb hby d9_5) ?_
  refine XS.istore X1.here hx rfl (hb hby d9_6) rfl (l' := #[rv r0, iv 0, iv 3, rv b1, iv 0]) rfl ?_
  refine XS.iload X1.here hx rfl (hb hby d9_8) rfl ?_
  refine XS.iloadN X1.here hx rfl (hb hby d9_10) rfl ?_
  exact kt
 obtain ⟨cl7, Ar7, q7, S7, M7, H7, G7⟩ := id fa2
 have hin7 : ¬ ((0 : Int32) < 0 ∨ cl7.slots.size ≤ ((0 : Int32)).toNatClampNeg) := inb_of S7 ⟨by decide, by decide⟩
 have hat7 : cl7.slots[((0 : Int32)).toNatClampNeg]? = some (.int c0) := H7.at hin7 rfl
 obtain ⟨_, _, ⟨T8, L8, k8, n8⟩, -, X8, ⟨Lc8, hQ8, l8, y8, z8⟩, st8⟩ := Jvm.LawKit.callS X1 hx (y := (⟨"java/lang/StringUTF16", "putChar", "([BII)V"⟩ : MethodName)) hown (mvT hZ (hw _ (List.mem_of_getElem? (i := 50) rfl))) (mvT hZ (hw _ (List.mem_of_getElem? (i := 51) rfl))) (mvT hZ (hw _ (List.mem_of_getElem? (i := 22) rfl))) (mvT hZ (hw _ (List.mem_of_getElem? (i := 52) rfl))) (by decide) (backOf (W := 0) (rm12 l Z a0 hw [] b1 (0 : Int32) c0 kb1 (6 : Int32) [(.int (0 : Int32)), (.int (0 : Int32)), (.int (0 : Int32)), (.int (0 : Int32)), (.int (0 : Int32)), (.int (0 : Int32))] cst fv T1.heap n0 z4 V1 fa3 (by decide) (by decide) (Nat.le_of_ble_eq_true rfl) (Nat.le_of_ble_eq_true rfl) g_b1 SS) hZ (hw _ (List.mem_of_getElem? (i := 52) rfl)) (hw _ (List.mem_of_getElem? (i := 22) rfl)) (by decide) (by decide)) (g := (mkF m 20 #[rv r0, iv 0, iv 3, rv b1, iv 0] [(.int c0), (.int (0 : Int32)), (.ref b1)])) rfl (by rw [hml]; rfl) (argsL := [(.ref b1), (.int (0 : Int32)), (.int c0)]) (rest := []) (lenOf pd_8 rfl) rfl (by show 2 * 0 + _ ≤ _; exact Nat.le_of_eq rfl) (hb hby d9_20) (fun _ _ => ⟨rfl, rfl, (by decide : 1 + 0 ≤ _), (by decide : 6 + 0 ≤ _)⟩)
 dsimp only [Pt.U, Pt.locs, Pt.cells, Pt.slots] at X8 l8 y8 z8 st8 hQ8
 subst l8 y8 z8
 obtain ⟨rfl, N8q, K8, V8⟩ := hQ8
 have N8 := Fr.app N1 N8q
 have fa9 : Arv Z T8.heap r0 ks .char (3 : Int32) [(.int c0), (.int c1), (.int c2)] (.int (0 : Int32)) := fa2.keep K8 (ninS ne_r0_b1 nin0)
 have fa10 : Old Z n0 T8.heap := fa3.keep K8 (allS g_b1 all0)
 have z11 : n0 ≤ T8.heap.size := Nat.le_trans z4 K8.1
 have kp12 : Keep h0 T8.heap [] := kp5.trans K8 (allS (Or.inr szk1) all0)
 have fa13 : Arv Z T8.heap b1 kb1 .byte (6 : Int32) [(.int (nar .byte ((c0 >>> ((0 : Int32) &&& 31)).toInt8.toInt32))), (.int (nar .byte ((c0 >>> ((8 : Int32) &&& 31)).toInt8.toInt32))), (.int (0 : Int32)), (.int (0 : Int32)), (.int (0 : Int32)), (.int (0 : Int32))] (.int (0 : Int32)) := V8
 have G14 : ∀ t, Steps p.tables e below (T8.setTop (mkF m 11 #[rv r0, iv 1, iv 3, rv b1, iv 1] [(.int (3 : Int32)), (.int (1 : Int32))])) t → Steps p.tables e below (s₁.setTop (entryFrame m #[(.ref r0), (.int (0 : Int32)), (.int (3 : Int32))] 5)) t := by
  intro t kt
  refine G6 _ ?_
  refine XS.icmpNo X1.here hx rfl (hb hby d9_11) rfl (tlt (by decide)).2.1 ?_
  refine XS.aloadN X1.here hx rfl (hb hby d9_14) rfl rfl ?_
  refine XS.iload X1.here hx rfl (hb hby d9_15) rfl ?_
  refine XS.aloadN X1.here hx rfl (hb hby d9_17) rfl rfl ?_
  refine XS.iloadN X1.here hx rfl (hb hby d9_18) rfl ?_
  refine X1.caload hx (j := (0 : Int32)) (v := (.int c0)) Ar7.1 (State.isArrayOf_alike hZ.alike Ar7.2.1) Ar7.2.2 hin7 hat7 (g := (mkF m 19 #[rv r0, iv 0, iv 3, rv b1, iv 0] [(.int (0 : Int32)), (.ref r0), (.int (0 : Int32)), (.ref b1)])) rfl rfl (hb hby d9_19) _ ?_
  refine st8 _ ?_
  refine XS.iinc X8.here hx rfl (hb hby d9_23) rfl (l' := #[rv r0, iv 1, iv 3, rv b1, iv 0]) rfl ?_
  refine XS.iinc X8.here hx rfl (hb hby d9_26) rfl (l' := #[rv r0, iv 1, iv 3, rv b1, iv 1]) rfl ?_
  refine XS.goto X8.here hx rfl (pc0 := 29) (pc' := 8) rfl (hb hby d9_29) (by decide) (by decide) ?_
  refine XS.iload X8.here hx rfl (hb hby d9_8) rfl ?_
  refine XS.iloadN X8.here hx rfl (hb hby d9_10) rfl ?_
  exact kt
 obtain ⟨cl15, Ar15, q15, S15, M15, H15, G15⟩ := id fa9
 have hin15 : ¬ ((1 : Int32) < 0 ∨ cl15.slots.size ≤ ((1 : Int32)).toNatClampNeg) := inb_of S15 ⟨by decide, by decide⟩
 have hat15 : cl15.slots[((1 : Int32)).toNatClampNeg]? = some (.int c1) := H15.at hin15 rfl
 obtain ⟨_, _, ⟨T16, L16, k16, n16⟩, -, X16, ⟨Lc16, hQ16, l16, y16, z16⟩, st16⟩ := Jvm.LawKit.callS X8 hx (y := (⟨"java/lang/StringUTF16", "putChar", "([BII)V"⟩ : MethodName)) hown (mvT hZ (hw _ (List.mem_of_getElem? (i := 50) rfl))) (mvT hZ (hw _ (List.mem_of_getElem? (i := 51) rfl))) (mvT hZ (hw _ (List.mem_of_getElem? (i := 22) rfl))) (mvT hZ (hw _ (List.mem_of_getElem? (i := 52) rfl))) (by decide) (backOf (W := 0) (rm12 l Z a0 hw [] b1 (1 : Int32) c1 kb1 (6 : Int32) [(.int (nar .byte ((c0 >>> ((0 : Int32) &&& 31)).toInt8.toInt32))), (.int (nar .byte ((c0 >>> ((8 : Int32) &&& 31)).toInt8.toInt32))), (.int (0 : Int32)), (.int (0 : Int32)), (.int (0 : Int32)), (.int (0 : Int32))] cst fv T8.heap n0 z11 fa13 fa10 (by decide) (by decide) (Nat.le_of_ble_eq_true rfl) (Nat.le_of_ble_eq_true rfl) g_b1 SS) hZ (hw _ (List.mem_of_getElem? (i := 52) rfl)) (hw _ (List.mem_of_getElem? (i := 22) rfl)) (by decide) (by decide)) (g := (mkF m 20 #[rv r0, iv 1, iv 3, rv b1, iv 1] [(.int c1), (.int (1 : Int32)), (.ref b1)])) rfl (by rw [hml]; rfl) (argsL := [(.ref b1), (.int (1 : Int32)), (.int c1)]) (rest := []) (lenOf pd_8 rfl) rfl (by show 2 * 0 + _ ≤ _; exact Nat.le_of_eq rfl) (hb hby d9_20) (fun _ _ => ⟨rfl, rfl, (by decide : 1 + 0 ≤ _), (by decide : 6 + 0 ≤ _)⟩)
 dsimp only [Pt.U, Pt.locs, Pt.cells, Pt.slots] at X16 l16 y16 z16 st16 hQ16
 subst l16 y16 z16
 obtain ⟨rfl, N16q, K16, V16⟩ := hQ16
 have N16 := Fr.app N8 N16q
 have fa17 : Arv Z T16.heap r0 ks .char (3 : Int32) [(.int c0), (.int c1), (.int c2)] (.int (0 : Int32)) := fa9.keep K16 (ninS ne_r0_b1 nin0)
 have fa18 : Old Z n0 T16.heap := fa10.keep K16 (allS g_b1 all0)
 have z19 : n0 ≤ T16.heap.size := Nat.le_trans z11 K16.1
 have kp20 : Keep h0 T16.heap [] := kp12.trans K16 (allS (Or.inr szk1) all0)
 have fa21 : Arv Z T16.heap b1 kb1 .byte (6 : Int32) [(.int (nar .byte ((c0 >>> ((0 : Int32) &&& 31)).toInt8.toInt32))), (.int (nar .byte ((c0 >>> ((8 : Int32) &&& 31)).toInt8.toInt32))), (.int (nar .byte ((c1 >>> ((0 : Int32) &&& 31)).toInt8.toInt32))), (.int (nar .byte ((c1 >>> ((8 : Int32) &&& 31)).toInt8.toInt32))), (.int (0 : Int32)), (.int (0 : Int32))] (.int (0 : Int32)) := V16
 have G22 : ∀ t, Steps p.tables e below (T16.setTop (mkF m 11 #[rv r0, iv 2, iv 3, rv b1, iv 2] [(.int (3 : Int32)), (.int (2 : Int32))])) t → Steps p.tables e below (s₁.setTop (entryFrame m #[(.ref r0), (.int (0 : Int32)), (.int (3 : Int32))] 5)) t := by
  intro t kt
  refine G14 _ ?_
  refine XS.icmpNo X8.here hx rfl (hb hby d9_11) rfl (tlt (by decide)).2.1 ?_
  refine XS.aloadN X8.here hx rfl (hb hby d9_14) rfl rfl ?_
  show Steps p.tables e below (T8.setTop (mkF m 15 #[rv r0, iv 1, iv 3, rv b1, iv 1] [(.ref b1)])) _
  refine XS.iload X8.here hx rfl (hb hby d9_15) rfl ?_
  refine XS.aloadN X8.here hx rfl (hb hby d9_17) rfl rfl ?_
  refine XS.iloadN X8.here hx rfl (hb hby d9_18) rfl ?_
  refine X8.caload hx (j := (1 : Int32)) (v := (.int c1)) Ar15.1 (State.isArrayOf_alike hZ.alike Ar15.2.1) Ar15.2.2 hin15 hat15 (g := (mkF m 19 #[rv r0, iv 1, iv 3, rv b1, iv 1] [(.int (1 : Int32)), (.ref r0), (.int (1 : Int32)), (.ref b1)])) rfl rfl (hb hby d9_19) _ ?_
  refine st16 _ ?_
  refine XS.iinc X16.here hx rfl (hb hby d9_23) rfl (l' := #[rv r0, iv 2, iv 3, rv b1, iv 1]) rfl ?_
  refine XS.iinc X16.here hx rfl (hb hby d9_26) rfl (l' := #[rv r0, iv 2, iv 3, rv b1, iv 2]) rfl ?_
  refine XS.goto X16.here hx rfl (pc0 := 29) (pc' := 8) rfl (hb hby d9_29) (by decide) (by decide) ?_
  refine XS.iload X16.here hx rfl (hb hby d9_8) rfl ?_
  refine XS.iloadN X16.here hx rfl (hb hby d9_10) rfl ?_
  exact kt
 obtain ⟨cl23, Ar23, q23, S23, M23, H23, G23⟩ := id fa17
 have hin23 : ¬ ((2 : Int32) < 0 ∨ cl23.slots.size ≤ ((2 : Int32)).toNatClampNeg) := inb_of S23 ⟨by decide, by decide⟩
 have hat23 : cl23.slots[((2 : Int32)).toNatClampNeg]? = some (.int c2) := H23.at hin23 rfl
 obtain ⟨_, _, ⟨T24, L24, k24, n24⟩, -, X24, ⟨Lc24, hQ24, l24, y24, z24⟩, st24⟩ := Jvm.LawKit.callS X16 hx (y := (⟨"java/lang/StringUTF16", "putChar", "([BII)V"⟩ : MethodName)) hown (mvT hZ (hw _ (List.mem_of_getElem? (i := 50) rfl))) (mvT hZ (hw _ (List.mem_of_getElem? (i := 51) rfl))) (mvT hZ (hw _ (List.mem_of_getElem? (i := 22) rfl))) (mvT hZ (hw _ (List.mem_of_getElem? (i := 52) rfl))) (by decide) (backOf (W := 0) (rm12 l Z a0 hw [] b1 (2 : Int32) c2 kb1 (6 : Int32) [(.int (nar .byte ((c0 >>> ((0 : Int32) &&& 31)).toInt8.toInt32))), (.int (nar .byte ((c0 >>> ((8 : Int32) &&& 31)).toInt8.toInt32))), (.int (nar .byte ((c1 >>> ((0 : Int32) &&& 31)).toInt8.toInt32))), (.int (nar .byte ((c1 >>> ((8 : Int32) &&& 31)).toInt8.toInt32))), (.int (0 : Int32)), (.int (0 : Int32))] cst fv T16.heap n0 z19 fa21 fa18 (by decide) (by decide) (Nat.le_of_ble_eq_true rfl) (Nat.le_of_ble_eq_true rfl) g_b1 SS) hZ (hw _ (List.mem_of_getElem? (i := 52) rfl)) (hw _ (List.mem_of_getElem? (i := 22) rfl)) (by decide) (by decide)) (g := (mkF m 20 #[rv r0, iv 2, iv 3, rv b1, iv 2] [(.int c2), (.int (2 : Int32)), (.ref b1)])) rfl (by rw [hml]; rfl) (argsL := [(.ref b1), (.int (2 : Int32)), (.int c2)]) (rest := []) (lenOf pd_8 rfl) rfl (by show 2 * 0 + _ ≤ _; exact Nat.le_of_eq rfl) (hb hby d9_20) (fun _ _ => ⟨rfl, rfl, (by decide : 1 + 0 ≤ _), (by decide : 6 + 0 ≤ _)⟩)
 dsimp only [Pt.U, Pt.locs, Pt.cells, Pt.slots] at X24 l24 y24 z24 st24 hQ24
 subst l24 y24 z24
 obtain ⟨rfl, N24q, K24, V24⟩ := hQ24
 have N24 := Fr.app N16 N24q
 have fa25 : Arv Z T24.heap r0 ks .char (3 : Int32) [(.int c0), (.int c1), (.int c2)] (.int (0 : Int32)) := fa17.keep K24 (ninS ne_r0_b1 nin0)
 have fa26 : Old Z n0 T24.heap := fa18.keep K24 (allS g_b1 all0)
 have z27 : n0 ≤ T24.heap.size := Nat.le_trans z19 K24.1
 have kp28 : Keep h0 T24.heap [] := kp20.trans K24 (allS (Or.inr szk1) all0)
 have fa29 : Arv Z T24.heap b1 kb1 .byte (6 : Int32) [(.int (nar .byte ((c0 >>> ((0 : Int32) &&& 31)).toInt8.toInt32))), (.int (nar .byte ((c0 >>> ((8 : Int32) &&& 31)).toInt8.toInt32))), (.int (nar .byte ((c1 >>> ((0 : Int32) &&& 31)).toInt8.toInt32))), (.int (nar .byte ((c1 >>> ((8 : Int32) &&& 31)).toInt8.toInt32))), (.int (nar .byte ((c2 >>> ((0 : Int32) &&& 31)).toInt8.toInt32))), (.int (nar .byte ((c2 >>> ((8 : Int32) &&& 31)).toInt8.toInt32)))] (.int (0 : Int32)) := V24
 have G30 : ∀ t, Steps p.tables e below (T24.setTop (mkF m 11 #[rv r0, iv 3, iv 3, rv b1, iv 3] [(.int (3 : Int32)), (.int (3 : Int32))])) t → Steps p.tables e below (s₁.setTop (entryFrame m #[(.ref r0), (.int (0 : Int32)), (.int (3 : Int32))] 5)) t := by
  intro t kt
  refine G22 _ ?_
  refine XS.icmpNo X16.here hx rfl (hb hby d9_11) rfl (tlt (by decide)).2.1 ?_
  refine XS.aloadN X16.here hx rfl (hb hby d9_14) rfl rfl ?_
  refine XS.iload X16.here hx rfl (hb hby d9_15) rfl ?_
  refine XS.aloadN X16.here hx rfl (hb hby d9_17) rfl rfl ?_
  refine XS.iloadN X16.here hx rfl (hb hby d9_18) rfl ?_
  refine X16.caload hx (j := (2 : Int32)) (v := (.int c2)) Ar23.1 (State.isArrayOf_alike hZ.alike Ar23.2.1) Ar23.2.2 hin23 hat23 (g := (mkF m 19 #[rv r0, iv 2, iv 3, rv b1, iv 2] [(.int (2 : Int32)), (.ref r0), (.int (2 : Int32)), (.ref b1)])) rfl rfl (hb hby d9_19) _ ?_
  refine st24 _ ?_
  refine XS.iinc X24.here hx rfl (hb hby d9_23) rfl (l' := #[rv r0, iv 3, iv 3, rv b1, iv 2]) rfl ?_
  refine XS.iinc X24.here hx rfl (hb hby d9_26) rfl (l' := #[rv r0, iv 3, iv 3, rv b1, iv 3]) rfl ?_
  refine XS.goto X24.here hx rfl (pc0 := 29) (pc' := 8) rfl (hb hby d9_29) (by decide) (by decide) ?_
  refine XS.iload X24.here hx rfl (hb hby d9_8) rfl ?_
  show Steps p.tables e below (T24.setTop (mkF m 10 #[rv r0, iv 3, iv 3, rv b1, iv 3] [(.int (3 : Int32))])) _
  refine XS.iloadN X24.here hx rfl (hb hby d9_10) rfl ?_
  exact kt
 obtain ⟨fs, hr, hrun, hended, hW, hsame⟩ := X24.leave (v := some (.ref b1)) (fun h => by rw [Bd.returns] at h; cases h)
 refine ⟨_, _, G30 _ ?_, hrun, hended, _, _, rfl, ?_, ⟨_, rfl⟩, hW, hsame.mono (by decide) (by decide)⟩
 ·skip
  refine XS.icmpYes X24.here hx rfl (pc0 := 11) (pc' := 32) rfl (hb hby d9_11) rfl (flt (by decide)).2.1 (by decide) (by decide) ?_
  refine XS.aloadN X24.here hx rfl (hb hby d9_32) rfl rfl ?_
  exact retOut X24 hx Bd.returns rfl (Or.inr (Or.inr (Or.inr (Or.inr ⟨rfl, rfl, rfl⟩)))) (hb hby d9_33) hr
 ·show QTB_3 Z r0 c0 c1 c2 ks cst fv h0 n0 _ T24.heap _
  exact ⟨b1, kb1, rfl, N24, kp28, g_b1, szk1, fa29⟩
theorem d5_0 : decode jdk_52_method_16_code 0 = .ok (.iload_n 2, 1) := by decide +kernel
theorem d5_1 : decode jdk_52_method_16_code 1 = .ok (.newarray .byte, 2) := by decide +kernel
theorem d5_3 : decode jdk_52_method_16_code 3 = .ok (.astore_n 3, 1) := by decide +kernel
theorem d5_4 : decode jdk_52_method_16_code 4 = .ok (.aload_n 0, 1) := by decide +kernel
theorem d5_5 : decode jdk_52_method_16_code 5 = .ok (.iload_n 1, 1) := by decide +kernel
theorem d5_6 : decode jdk_52_method_16_code 6 = .ok (.aload_n 3, 1) := by decide +kernel
theorem d5_7 : decode jdk_52_method_16_code 7 = .ok (.iconst 0, 1) := by decide +kernel
theorem d5_8 : decode jdk_52_method_16_code 8 = .ok (.iload_n 2, 1) := by decide +kernel
theorem d5_9 : decode jdk_52_method_16_code 9 = .ok (.invokestatic 115, 3) := by decide +kernel
theorem pd_9 : parseMethodDescriptor "([CI[BII)I" = some ⟨[(.array .char), .int, (.array .byte), .int, .int], some .int⟩ := by decide +kernel
theorem d5_12 : decode jdk_52_method_16_code 12 = .ok (.istore 4, 2) := by decide +kernel
theorem d5_14 : decode jdk_52_method_16_code 14 = .ok (.iload 4, 2) := by decide +kernel
theorem d5_16 : decode jdk_52_method_16_code 16 = .ok (.iload_n 2, 1) := by decide +kernel
theorem d5_17 : decode jdk_52_method_16_code 17 = .ok (.if_icmp .eq 40, 3) := by decide +kernel
theorem d5_20 : decode jdk_52_method_16_code 20 = .ok (.aload_n 0, 1) := by decide +kernel
theorem d5_21 : decode jdk_52_method_16_code 21 = .ok (.iload_n 1, 1) := by decide +kernel
theorem d5_22 : decode jdk_52_method_16_code 22 = .ok (.iload_n 2, 1) := by decide +kernel
theorem d5_23 : decode jdk_52_method_16_code 23 = .ok (.invokestatic 119, 3) := by decide +kernel
theorem pd_10 : parseMethodDescriptor "([CII)[B" = some ⟨[(.array .char), .int, .int], some (.array .byte)⟩ := by decide +kernel
theorem d5_26 : decode jdk_52_method_16_code 26 = .ok (.astore 5, 2) := by decide +kernel
theorem d5_28 : decode jdk_52_method_16_code 28 = .ok (.aload 5, 2) := by decide +kernel
theorem d5_30 : decode jdk_52_method_16_code 30 = .ok (.iload 4, 2) := by decide +kernel
theorem d5_32 : decode jdk_52_method_16_code 32 = .ok (.invokestatic 71, 3) := by decide +kernel
theorem d5_35 : decode jdk_52_method_16_code 35 = .ok (.sipush 255, 3) := by decide +kernel
theorem d5_38 : decode jdk_52_method_16_code 38 = .ok (.if_icmp .gt 16, 3) := by decide +kernel
theorem d5_54 : decode jdk_52_method_16_code 54 = .ok (.aload 5, 2) := by decide +kernel
theorem d5_56 : decode jdk_52_method_16_code 56 = .ok (.areturn, 1) := by decide +kernel
theorem d5_57 : decode jdk_52_method_16_code 57 = .ok (.aload_n 3, 1) := by decide +kernel
theorem d5_58 : decode jdk_52_method_16_code 58 = .ok (.areturn, 1) := by decide +kernel
def QC3_3 (Z : State) (r0 : Addr) (c0 c1 c2 : Int32) (ks : ClassId) (cst : Int32) (fv : Value) (h0 : Heap) (n0 : Nat) (v : Option Value) (h : Heap) (L : List Loc) : Prop := (∃ (b : Addr) (k : ClassId), v = some (.ref b) ∧ Fr n0 L ∧ Keep h0 h [] ∧ n0 ≤ b ∧ h0.size ≤ b ∧ (¬ ((255 : Int32) < c0) ∧ ¬ ((255 : Int32) < c1) ∧ ¬ ((255 : Int32) < c2)) ∧ Arv Z h b k .byte (3 : Int32) [(.int (nar .byte (c0.toInt8.toInt32))), (.int (nar .byte (c1.toInt8.toInt32))), (.int (nar .byte (c2.toInt8.toInt32)))] (.int (0 : Int32))) ∨ (∃ (b : Addr) (k : ClassId), v = some (.ref b) ∧ Fr n0 L ∧ Keep h0 h [] ∧ n0 ≤ b ∧ h0.size ≤ b ∧ ((255 : Int32) < c0 ∨ (255 : Int32) < c1 ∨ (255 : Int32) < c2) ∧ Arv Z h b k .byte (6 : Int32) [(.int (nar .byte ((c0 >>> ((0 : Int32) &&& 31)).toInt8.toInt32))), (.int (nar .byte ((c0 >>> ((8 : Int32) &&& 31)).toInt8.toInt32))), (.int (nar .byte ((c1 >>> ((0 : Int32) &&& 31)).toInt8.toInt32))), (.int (nar .byte ((c1 >>> ((8 : Int32) &&& 31)).toInt8.toInt32))), (.int (nar .byte ((c2 >>> ((0 : Int32) &&& 31)).toInt8.toInt32))), (.int (nar .byte ((c2 >>> ((8 : Int32) &&& 31)).toInt8.toInt32)))] (.int (0 : Int32)))
theorem ef_rmC3_3 (m : MethodId) (x0 : Addr) (x1 : Int32) (x2 : Int32) : entryFrame m #[(.ref x0), (.int x1), (.int x2)] 6 = mkF m 0 #[.val (.ref x0), .val (.int x1), .val (.int x2), .unset, .unset, .unset] [] := by first | (simp [entryFrame, mkF, argsToLocals, Value.category]; done) | rfl
set_option maxRecDepth 65536 in
set_option maxHeartbeats 40000000 in
theorem rmC3_3 (l : Launch) (Z : State) (a0 : Array Value) (hw : ∀ d ∈ tables_1, d.before a0 Z = true) (ws : List Jvm.Cond) (r0 : Addr) (c0 c1 c2 : Int32) (ks : ClassId) (cst : Int32) (fv : Value) (h0 : Heap) (n0 : Nat) (Z0 : n0 ≤ h0.size) (Vs : Arv Z h0 r0 ks .char (3 : Int32) [(.int c0), (.int c1), (.int c2)] (.int (0 : Int32))) (O0 : Old Z n0 h0) (hb0 : 0 ≤ c0.toInt ∧ c0.toInt ≤ 65535) (hb1 : 0 ≤ c1.toInt ∧ c1.toInt ≤ 65535) (hb2 : 0 ≤ c2.toInt ∧ c2.toInt ≤ 65535) (SS : Sts Z cst fv) :
  MetFree l (⟨"java/lang/StringUTF16", "compress", "([CII)[B"⟩ : MethodName) (head1 (Jvm.Cond.code (⟨"java/lang/StringUTF16", "compress", "([CII)[B"⟩ : MethodName) jdk_52_method_16_code 6 (some (.array .byte)) :: ws) ({ frames := 3, cells := 2, slots := 9, locals := 40 } : Room)) (fun a U => a = #[(.ref r0), (.int (0 : Int32)), (.int (3 : Int32))] ∧ Z.Warmed39 U.vm ∧ U.heap = h0) (fun _ _ _ _ _ => True) (fun _ U o U' => ∃ v L, o = .returned v ∧ QC3_3 Z r0 c0 c1 c2 ks cst fv h0 n0 v U'.heap L ∧ FrameEnd U o U' L ({ frames := 3, cells := 2, slots := 9, locals := 40 } : Room).cells ({ frames := 3, cells := 2, slots := 9, locals := 40 } : Room).slots) := by
 refine MetFree.of_bodySF (plainFor_of_name pnc_java_lang_StringUTF16) hisR ?_
 intro p e s m args below meth c s₁ Bd hml0 hP hK
 obtain ⟨rfl, hZ, hh⟩ := hP
 have hx := Bd.exec
 have hby := Bd.bytes
 have hml : c.maxLocals = 6 := hml0
 have hown : s.vm.findClass "java/lang/StringUTF16" = some m.cls := findClass_of_methodNamed Bd.named
 have hnm := (name_of_methodNamed Bd.named Bd.method).1
 have X0 : Stand p l e ({ frames := 3, cells := 2, slots := 9, locals := 40 } : Room) s m #[(.ref r0), (.int (0 : Int32)), (.int (3 : Int32))] below meth c s₁ [] 0 0 := Stand.of_body Bd
 have e0 : s₁.heap = h0 := by rw [← hh, Bd.state]; rfl
 have N0 := Fr.nil n0
 have kp0 : Keep h0 h0 [] := Keep.refl _ _
 have G0 : ∀ t, Steps p.tables e below (s₁.setTop (mkF m 0 #[rv r0, iv 0, iv 3, .unset, .unset, .unset] [])) t → Steps p.tables e below (s₁.setTop (entryFrame m #[(.ref r0), (.int (0 : Int32)), (.int (3 : Int32))] 6)) t := fun t k => castTop (ef_rmC3_3 m r0 (0 : Int32) (3 : Int32)) k
 obtain ⟨T1, h1, k1, X1, e1, E1, A1, st1⟩ := newP X0 hx hZ (hw _ (List.mem_of_getElem? (i := 24) rfl)) e0 (g := (mkF m 1 #[rv r0, iv 0, iv 3, .unset, .unset, .unset] [(.int (3 : Int32))])) rfl (hb hby d5_1) rfl (by decide) (cap := 3) (by decide) (by decide) (by decide) (by decide)
 obtain ⟨b1, g1⟩ : ∃ z, z = h0.size := ⟨_, rfl⟩
 rw [← g1] at A1 st1
 have g_b1 : n0 ≤ b1 := Nat.le_trans Z0 (Nat.le_of_eq g1.symm)
 have sz_b1 : h0.size ≤ b1 := Nat.le_trans kp0.1 (Nat.le_of_eq g1.symm)
 have ne_r0_b1 : r0 ≠ b1 := Nat.ne_of_lt (Nat.lt_of_lt_of_le Vs.lt (Nat.le_of_eq g1.symm))
 have fa2 : Arv Z h1 r0 ks .char (3 : Int32) [(.int c0), (.int c1), (.int c2)] (.int (0 : Int32)) := Vs.ext E1
 have fa3 : Old Z n0 h1 := O0.ext E1
 have z4 : n0 ≤ h1.size := Nat.le_trans Z0 E1.1
 have kp5 : Keep h0 h1 [] := kp0.ext E1
 have fa6 : Arv Z h1 b1 k1 .byte (3 : Int32) [(.int (0 : Int32)), (.int (0 : Int32)), (.int (0 : Int32))] (.int (0 : Int32)) := (Arv.new A1 (by decide)).pad (pad_rep [] (.int (0 : Int32)) 3)
 obtain ⟨_, _, ⟨T7, L7, k7, n7⟩, -, X7, ⟨Lc7, hQ7, l7, y7, z7⟩, st7⟩ := Jvm.LawKit.callS X1 hx (y := (⟨"java/lang/StringUTF16", "compress", "([CI[BII)I"⟩ : MethodName)) hown (mvT hZ (hw _ (List.mem_of_getElem? (i := 25) rfl))) (mvT hZ (hw _ (List.mem_of_getElem? (i := 26) rfl))) (mvT hZ (hw _ (List.mem_of_getElem? (i := 22) rfl))) (mvT hZ (hw _ (List.mem_of_getElem? (i := 27) rfl))) (by decide) (backOf (W := 0) (rmC5_3 l Z a0 hw [] r0 b1 c0 c1 c2 ks k1 h1 n0 z4 fa2 fa6 ne_r0_b1 g_b1) hZ (hw _ (List.mem_of_getElem? (i := 27) rfl)) (hw _ (List.mem_of_getElem? (i := 22) rfl)) (by decide) (by decide)) (g := (mkF m 9 #[rv r0, iv 0, iv 3, rv b1, .unset, .unset] [(.int (3 : Int32)), (.int (0 : Int32)), (.ref b1), (.int (0 : Int32)), (.ref r0)])) rfl (by rw [hml]; rfl) (argsL := [(.ref r0), (.int (0 : Int32)), (.ref b1), (.int (0 : Int32)), (.int (3 : Int32))]) (rest := []) (lenOf pd_9 rfl) rfl (by show 2 * 0 + _ ≤ _; exact Nat.le_of_eq rfl) (hb hby d5_9) (fun _ _ => ⟨rfl, e1, (by decide : 1 + 0 ≤ _), (by decide : 3 + 0 ≤ _)⟩)
 dsimp only [Pt.U, Pt.locs, Pt.cells, Pt.slots] at X7 l7 y7 z7 st7 hQ7
 subst l7 y7 z7
 rcases hQ7 with ⟨rfl, N7q, K7, hq7_0⟩ | ⟨rfl, N7q, K7, hq7_0, hq7_1⟩ | ⟨rfl, N7q, K7, hq7_0, hq7_1, hq7_2⟩ | ⟨rfl, N7q, K7, hq7_0, hq7_1, hq7_2, V7⟩
 ·skip
  have N7 := Fr.app N0 N7q
  have fa8 : Arv Z T7.heap r0 ks .char (3 : Int32) [(.int c0), (.int c1), (.int c2)] (.int (0 : Int32)) := fa2.keep K7 (ninS ne_r0_b1 nin0)
  have fa9 : Old Z n0 T7.heap := fa3.keep K7 (allS g_b1 all0)
  have z10 : n0 ≤ T7.heap.size := Nat.le_trans z4 K7.1
  have kp11 : Keep h0 T7.heap [] := kp5.trans K7 (allS (Or.inr sz_b1) all0)
  have G12 : ∀ t, Steps p.tables e below (T7.setTop (mkF m 17 #[rv r0, iv 0, iv 3, rv b1, iv 0, .unset] [(.int (3 : Int32)), (.int (0 : Int32))])) t → Steps p.tables e below (s₁.setTop (entryFrame m #[(.ref r0), (.int (0 : Int32)), (.int (3 : Int32))] 6)) t := by
   intro t kt
   refine G0 _ ?_
   refine XS.iloadN X0.here hx rfl (hb hby d5_0) rfl ?_
   refine st1 _ ?_
   refine XS.astoreN X1.here hx rfl (hb hby d5_3) rfl rfl (l' := #[rv r0, iv 0, iv 3, rv b1, .unset, .unset]) rfl ?_
   refine XS.aloadN X1.here hx rfl (hb hby d5_4) rfl rfl ?_
   refine XS.iloadN X1.here hx rfl (hb hby d5_5) rfl ?_
   refine XS.aloadN X1.here hx rfl (hb hby d5_6) rfl rfl ?_
   refine XS.iconst X1.here hx rfl (hb hby d5_7) ?_
   refine XS.iloadN X1.here hx rfl (hb hby d5_8) rfl ?_
   refine st7 _ ?_
   refine XS.istore X7.here hx rfl (hb hby d5_12) rfl (l' := #[rv r0, iv 0, iv 3, rv b1, iv 0, .unset]) rfl ?_
   refine XS.iload X7.here hx rfl (hb hby d5_14) rfl ?_
   refine XS.iloadN X7.here hx rfl (hb hby d5_16) rfl ?_
   exact kt
  obtain ⟨_, _, ⟨T13, L13, k13, n13⟩, -, X13, ⟨Lc13, hQ13, l13, y13, z13⟩, st13⟩ := Jvm.LawKit.callS X7 hx (y := (⟨"java/lang/StringUTF16", "toBytes", "([CII)[B"⟩ : MethodName)) hown (mvT hZ (hw _ (List.mem_of_getElem? (i := 40) rfl))) (mvT hZ (hw _ (List.mem_of_getElem? (i := 41) rfl))) (mvT hZ (hw _ (List.mem_of_getElem? (i := 22) rfl))) (mvT hZ (hw _ (List.mem_of_getElem? (i := 42) rfl))) (by decide) (backOf (W := 0) (rmTB_3 l Z a0 hw [] r0 c0 c1 c2 ks cst fv T7.heap n0 z10 fa8 fa9 SS) hZ (hw _ (List.mem_of_getElem? (i := 42) rfl)) (hw _ (List.mem_of_getElem? (i := 22) rfl)) (by decide) (by decide)) (g := (mkF m 23 #[rv r0, iv 0, iv 3, rv b1, iv 0, .unset] [(.int (3 : Int32)), (.int (0 : Int32)), (.ref r0)])) rfl (by rw [hml]; rfl) (argsL := [(.ref r0), (.int (0 : Int32)), (.int (3 : Int32))]) (rest := []) (lenOf pd_10 rfl) rfl (by show 2 * 0 + _ ≤ _; exact Nat.le_of_eq rfl) (hb hby d5_23) (fun _ _ => ⟨rfl, rfl, (by decide : 1 + 1 ≤ _), (by decide : 3 + 6 ≤ _)⟩)
  dsimp only [Pt.U, Pt.locs, Pt.cells, Pt.slots] at X13 l13 y13 z13 st13 hQ13
  subst l13 y13 z13
  obtain ⟨b13, kb13, rfl, N13q, K13, g_b13, sz13, V13⟩ := hQ13
  have N13 := Fr.app N7 N13q
  have szk13 : h0.size ≤ b13 := Nat.le_trans kp11.1 sz13
  have ne_r0_b13 : r0 ≠ b13 := Nat.ne_of_lt (Nat.lt_of_lt_of_le fa8.lt sz13)
  have fa14 : Arv Z T13.heap r0 ks .char (3 : Int32) [(.int c0), (.int c1), (.int c2)] (.int (0 : Int32)) := fa8.keep K13 nin0
  have fa15 : Old Z n0 T13.heap := fa9.keep K13 all0
  have z16 : n0 ≤ T13.heap.size := Nat.le_trans z10 K13.1
  have kp17 : Keep h0 T13.heap [] := kp11.trans K13 all0
  obtain ⟨_, _, ⟨T18, L18, k18, n18⟩, -, X18, ⟨Lc18, hQ18, l18, y18, z18⟩, st18⟩ := Jvm.LawKit.callS X13 hx (y := (⟨"java/lang/StringUTF16", "getChar", "([BI)C"⟩ : MethodName)) hown (mvT hZ (hw _ (List.mem_of_getElem? (i := 56) rfl))) (mvT hZ (hw _ (List.mem_of_getElem? (i := 57) rfl))) (mvT hZ (hw _ (List.mem_of_getElem? (i := 22) rfl))) (mvT hZ (hw _ (List.mem_of_getElem? (i := 58) rfl))) (by decide) (backOf (W := 0) (rm13 l Z a0 hw [] b13 (0 : Int32) kb13 (6 : Int32) [(.int (nar .byte ((c0 >>> ((0 : Int32) &&& 31)).toInt8.toInt32))), (.int (nar .byte ((c0 >>> ((8 : Int32) &&& 31)).toInt8.toInt32))), (.int (nar .byte ((c1 >>> ((0 : Int32) &&& 31)).toInt8.toInt32))), (.int (nar .byte ((c1 >>> ((8 : Int32) &&& 31)).toInt8.toInt32))), (.int (nar .byte ((c2 >>> ((0 : Int32) &&& 31)).toInt8.toInt32))), (.int (nar .byte ((c2 >>> ((8 : Int32) &&& 31)).toInt8.toInt32)))] (nar .byte ((c0 >>> ((0 : Int32) &&& 31)).toInt8.toInt32)) (nar .byte ((c0 >>> ((8 : Int32) &&& 31)).toInt8.toInt32)) cst fv T13.heap n0 z16 V13 fa15 (by decide) (by decide) rfl rfl SS) hZ (hw _ (List.mem_of_getElem? (i := 58) rfl)) (hw _ (List.mem_of_getElem? (i := 22) rfl)) (by decide) (by decide)) (g := (mkF m 32 #[rv r0, iv 0, iv 3, rv b1, iv 0, rv b13] [(.int (0 : Int32)), (.ref b13)])) rfl (by rw [hml]; rfl) (argsL := [(.ref b13), (.int (0 : Int32))]) (rest := []) (lenOf pd_4 rfl) rfl (by show 2 * 0 + _ ≤ _; exact Nat.le_of_eq rfl) (hb hby d5_32) (fun _ _ => ⟨rfl, rfl, (by decide : 2 + 0 ≤ _), (by decide : 9 + 0 ≤ _)⟩)
  dsimp only [Pt.U, Pt.locs, Pt.cells, Pt.slots] at X18 l18 y18 z18 st18 hQ18
  subst l18 y18 z18
  obtain ⟨rfl, N18q, eh18⟩ := hQ18
  have N18 := Fr.app N13 N18q
  have G19 : ∀ t, Steps p.tables e below (T18.setTop (mkF m 38 #[rv r0, iv 0, iv 3, rv b1, iv 0, rv b13] [(.int (255 : Int32)), (.int (fget (nar .byte ((c0 >>> ((0 : Int32) &&& 31)).toInt8.toInt32)) (nar .byte ((c0 >>> ((8 : Int32) &&& 31)).toInt8.toInt32))))])) t → Steps p.tables e below (s₁.setTop (entryFrame m #[(.ref r0), (.int (0 : Int32)), (.int (3 : Int32))] 6)) t := by
   intro t kt
   refine G12 _ ?_
   refine XS.icmpNo X7.here hx rfl (hb hby d5_17) rfl (feq (by decide)).1 ?_
   refine XS.aloadN X7.here hx rfl (hb hby d5_20) rfl rfl ?_
   refine XS.iloadN X7.here hx rfl (hb hby d5_21) rfl ?_
   refine XS.iloadN X7.here hx rfl (hb hby d5_22) rfl ?_
   refine st13 _ ?_
   refine XS.astore X13.here hx rfl (hb hby d5_26) rfl rfl (l' := #[rv r0, iv 0, iv 3, rv b1, iv 0, rv b13]) rfl ?_
   refine XS.aload X13.here hx rfl (hb hby d5_28) rfl rfl ?_
   refine XS.iload X13.here hx rfl (hb hby d5_30) rfl ?_
   show Steps p.tables e below (T13.setTop (mkF m 32 #[rv r0, iv 0, iv 3, rv b1, iv 0, rv b13] [(.int (0 : Int32)), (.ref b13)])) _
   refine st18 _ ?_
   refine XS.sipush X18.here hx rfl (hb hby d5_35) ?_
   exact kt
  have hc38_20 : (255 : Int32) < (fget (nar .byte ((c0 >>> ((0 : Int32) &&& 31)).toInt8.toInt32)) (nar .byte ((c0 >>> ((8 : Int32) &&& 31)).toInt8.toInt32))) := by rw [own_u16 c0 hb0]; exact hq7_0
  obtain ⟨fs, hr, hrun, hended, hW, hsame⟩ := X18.leave (v := some (.ref b13)) (fun h => by rw [Bd.returns] at h; cases h)
  refine ⟨_, _, G19 _ ?_, hrun, hended, _, _, rfl, ?_, ⟨_, rfl⟩, hW, hsame.mono (by decide) (by decide)⟩
  ·skip
   refine XS.icmpYes X18.here hx rfl (pc0 := 38) (pc' := 54) rfl (hb hby d5_38) rfl (tlt hc38_20).2.2.1 (by decide) (by decide) ?_
   refine XS.aload X18.here hx rfl (hb hby d5_54) rfl rfl ?_
   exact retOut X18 hx Bd.returns rfl (Or.inr (Or.inr (Or.inr (Or.inr ⟨rfl, rfl, rfl⟩)))) (hb hby d5_56) hr
  ·show QC3_3 Z r0 c0 c1 c2 ks cst fv h0 n0 _ T18.heap _
   rw [eh18]
   exact Or.inr ⟨b13, kb13, rfl, N18, kp17, g_b13, szk13, (Or.inl hq7_0), V13⟩
 ·skip
  have N7 := Fr.app N0 N7q
  have fa21 : Arv Z T7.heap r0 ks .char (3 : Int32) [(.int c0), (.int c1), (.int c2)] (.int (0 : Int32)) := fa2.keep K7 (ninS ne_r0_b1 nin0)
  have fa22 : Old Z n0 T7.heap := fa3.keep K7 (allS g_b1 all0)
  have z23 : n0 ≤ T7.heap.size := Nat.le_trans z4 K7.1
  have kp24 : Keep h0 T7.heap [] := kp5.trans K7 (allS (Or.inr sz_b1) all0)
  have G25 : ∀ t, Steps p.tables e below (T7.setTop (mkF m 17 #[rv r0, iv 0, iv 3, rv b1, iv 1, .unset] [(.int (3 : Int32)), (.int (1 : Int32))])) t → Steps p.tables e below (s₁.setTop (entryFrame m #[(.ref r0), (.int (0 : Int32)), (.int (3 : Int32))] 6)) t := by
   intro t kt
   refine G0 _ ?_
   refine XS.iloadN X0.here hx rfl (hb hby d5_0) rfl ?_
   refine st1 _ ?_
   refine XS.astoreN X1.here hx rfl (hb hby d5_3) rfl rfl (l' := #[rv r0, iv 0, iv 3, rv b1, .unset, .unset]) rfl ?_
   refine XS.aloadN X1.here hx rfl (hb hby d5_4) rfl rfl ?_
   refine XS.iloadN X1.here hx rfl (hb hby d5_5) rfl ?_
   refine XS.aloadN X1.here hx rfl (hb hby d5_6) rfl rfl ?_
   refine XS.iconst X1.here hx rfl (hb hby d5_7) ?_
   refine XS.iloadN X1.here hx rfl (hb hby d5_8) rfl ?_
   refine st7 _ ?_
   refine XS.istore X7.here hx rfl (hb hby d5_12) rfl (l' := #[rv r0, iv 0, iv 3, rv b1, iv 1, .unset]) rfl ?_
   refine XS.iload X7.here hx rfl (hb hby d5_14) rfl ?_
   refine XS.iloadN X7.here hx rfl (hb hby d5_16) rfl ?_
   exact kt
  obtain ⟨_, _, ⟨T26, L26, k26, n26⟩, -, X26, ⟨Lc26, hQ26, l26, y26, z26⟩, st26⟩ := Jvm.LawKit.callS X7 hx (y := (⟨"java/lang/StringUTF16", "toBytes", "([CII)[B"⟩ : MethodName)) hown (mvT hZ (hw _ (List.mem_of_getElem? (i := 40) rfl))) (mvT hZ (hw _ (List.mem_of_getElem? (i := 41) rfl))) (mvT hZ (hw _ (List.mem_of_getElem? (i := 22) rfl))) (mvT hZ (hw _ (List.mem_of_getElem? (i := 42) rfl))) (by decide) (backOf (W := 0) (rmTB_3 l Z a0 hw [] r0 c0 c1 c2 ks cst fv T7.heap n0 z23 fa21 fa22 SS) hZ (hw _ (List.mem_of_getElem? (i := 42) rfl)) (hw _ (List.mem_of_getElem? (i := 22) rfl)) (by decide) (by decide)) (g := (mkF m 23 #[rv r0, iv 0, iv 3, rv b1, iv 1, .unset] [(.int (3 : Int32)), (.int (0 : Int32)), (.ref r0)])) rfl (by rw [hml]; rfl) (argsL := [(.ref r0), (.int (0 : Int32)), (.int (3 : Int32))]) (rest := []) (lenOf pd_10 rfl) rfl (by show 2 * 0 + _ ≤ _; exact Nat.le_of_eq rfl) (hb hby d5_23) (fun _ _ => ⟨rfl, rfl, (by decide : 1 + 1 ≤ _), (by decide : 3 + 6 ≤ _)⟩)
  dsimp only [Pt.U, Pt.locs, Pt.cells, Pt.slots] at X26 l26 y26 z26 st26 hQ26
  subst l26 y26 z26
  obtain ⟨b26, kb26, rfl, N26q, K26, g_b26, sz26, V26⟩ := hQ26
  have N26 := Fr.app N7 N26q
  have szk26 : h0.size ≤ b26 := Nat.le_trans kp24.1 sz26
  have ne_r0_b26 : r0 ≠ b26 := Nat.ne_of_lt (Nat.lt_of_lt_of_le fa21.lt sz26)
  have fa27 : Arv Z T26.heap r0 ks .char (3 : Int32) [(.int c0), (.int c1), (.int c2)] (.int (0 : Int32)) := fa21.keep K26 nin0
  have fa28 : Old Z n0 T26.heap := fa22.keep K26 all0
  have z29 : n0 ≤ T26.heap.size := Nat.le_trans z23 K26.1
  have kp30 : Keep h0 T26.heap [] := kp24.trans K26 all0
  obtain ⟨_, _, ⟨T31, L31, k31, n31⟩, -, X31, ⟨Lc31, hQ31, l31, y31, z31⟩, st31⟩ := Jvm.LawKit.callS X26 hx (y := (⟨"java/lang/StringUTF16", "getChar", "([BI)C"⟩ : MethodName)) hown (mvT hZ (hw _ (List.mem_of_getElem? (i := 56) rfl))) (mvT hZ (hw _ (List.mem_of_getElem? (i := 57) rfl))) (mvT hZ (hw _ (List.mem_of_getElem? (i := 22) rfl))) (mvT hZ (hw _ (List.mem_of_getElem? (i := 58) rfl))) (by decide) (backOf (W := 0) (rm13 l Z a0 hw [] b26 (1 : Int32) kb26 (6 : Int32) [(.int (nar .byte ((c0 >>> ((0 : Int32) &&& 31)).toInt8.toInt32))), (.int (nar .byte ((c0 >>> ((8 : Int32) &&& 31)).toInt8.toInt32))), (.int (nar .byte ((c1 >>> ((0 : Int32) &&& 31)).toInt8.toInt32))), (.int (nar .byte ((c1 >>> ((8 : Int32) &&& 31)).toInt8.toInt32))), (.int (nar .byte ((c2 >>> ((0 : Int32) &&& 31)).toInt8.toInt32))), (.int (nar .byte ((c2 >>> ((8 : Int32) &&& 31)).toInt8.toInt32)))] (nar .byte ((c1 >>> ((0 : Int32) &&& 31)).toInt8.toInt32)) (nar .byte ((c1 >>> ((8 : Int32) &&& 31)).toInt8.toInt32)) cst fv T26.heap n0 z29 V26 fa28 (by decide) (by decide) rfl rfl SS) hZ (hw _ (List.mem_of_getElem? (i := 58) rfl)) (hw _ (List.mem_of_getElem? (i := 22) rfl)) (by decide) (by decide)) (g := (mkF m 32 #[rv r0, iv 0, iv 3, rv b1, iv 1, rv b26] [(.int (1 : Int32)), (.ref b26)])) rfl (by rw [hml]; rfl) (argsL := [(.ref b26), (.int (1 : Int32))]) (rest := []) (lenOf pd_4 rfl) rfl (by show 2 * 0 + _ ≤ _; exact Nat.le_of_eq rfl) (hb hby d5_32) (fun _ _ => ⟨rfl, rfl, (by decide : 2 + 0 ≤ _), (by decide : 9 + 0 ≤ _)⟩)
  dsimp only [Pt.U, Pt.locs, Pt.cells, Pt.slots] at X31 l31 y31 z31 st31 hQ31
  subst l31 y31 z31
  obtain ⟨rfl, N31q, eh31⟩ := hQ31
  have N31 := Fr.app N26 N31q
  have G32 : ∀ t, Steps p.tables e below (T31.setTop (mkF m 38 #[rv r0, iv 0, iv 3, rv b1, iv 1, rv b26] [(.int (255 : Int32)), (.int (fget (nar .byte ((c1 >>> ((0 : Int32) &&& 31)).toInt8.toInt32)) (nar .byte ((c1 >>> ((8 : Int32) &&& 31)).toInt8.toInt32))))])) t → Steps p.tables e below (s₁.setTop (entryFrame m #[(.ref r0), (.int (0 : Int32)), (.int (3 : Int32))] 6)) t := by
   intro t kt
   refine G25 _ ?_
   refine XS.icmpNo X7.here hx rfl (hb hby d5_17) rfl (feq (by decide)).1 ?_
   refine XS.aloadN X7.here hx rfl (hb hby d5_20) rfl rfl ?_
   refine XS.iloadN X7.here hx rfl (hb hby d5_21) rfl ?_
   refine XS.iloadN X7.here hx rfl (hb hby d5_22) rfl ?_
   refine st26 _ ?_
   refine XS.astore X26.here hx rfl (hb hby d5_26) rfl rfl (l' := #[rv r0, iv 0, iv 3, rv b1, iv 1, rv b26]) rfl ?_
   refine XS.aload X26.here hx rfl (hb hby d5_28) rfl rfl ?_
   refine XS.iload X26.here hx rfl (hb hby d5_30) rfl ?_
   show Steps p.tables e below (T26.setTop (mkF m 32 #[rv r0, iv 0, iv 3, rv b1, iv 1, rv b26] [(.int (1 : Int32)), (.ref b26)])) _
   refine st31 _ ?_
   refine XS.sipush X31.here hx rfl (hb hby d5_35) ?_
   exact kt
  have hc38_33 : (255 : Int32) < (fget (nar .byte ((c1 >>> ((0 : Int32) &&& 31)).toInt8.toInt32)) (nar .byte ((c1 >>> ((8 : Int32) &&& 31)).toInt8.toInt32))) := by rw [own_u16 c1 hb1]; exact hq7_1
  obtain ⟨fs, hr, hrun, hended, hW, hsame⟩ := X31.leave (v := some (.ref b26)) (fun h => by rw [Bd.returns] at h; cases h)
  refine ⟨_, _, G32 _ ?_, hrun, hended, _, _, rfl, ?_, ⟨_, rfl⟩, hW, hsame.mono (by decide) (by decide)⟩
  ·skip
   refine XS.icmpYes X31.here hx rfl (pc0 := 38) (pc' := 54) rfl (hb hby d5_38) rfl (tlt hc38_33).2.2.1 (by decide) (by decide) ?_
   refine XS.aload X31.here hx rfl (hb hby d5_54) rfl rfl ?_
   exact retOut X31 hx Bd.returns rfl (Or.inr (Or.inr (Or.inr (Or.inr ⟨rfl, rfl, rfl⟩)))) (hb hby d5_56) hr
  ·show QC3_3 Z r0 c0 c1 c2 ks cst fv h0 n0 _ T31.heap _
   rw [eh31]
   exact Or.inr ⟨b26, kb26, rfl, N31, kp30, g_b26, szk26, (Or.inr (Or.inl hq7_1)), V26⟩
 ·skip
  have N7 := Fr.app N0 N7q
  have fa34 : Arv Z T7.heap r0 ks .char (3 : Int32) [(.int c0), (.int c1), (.int c2)] (.int (0 : Int32)) := fa2.keep K7 (ninS ne_r0_b1 nin0)
  have fa35 : Old Z n0 T7.heap := fa3.keep K7 (allS g_b1 all0)
  have z36 : n0 ≤ T7.heap.size := Nat.le_trans z4 K7.1
  have kp37 : Keep h0 T7.heap [] := kp5.trans K7 (allS (Or.inr sz_b1) all0)
  have G38 : ∀ t, Steps p.tables e below (T7.setTop (mkF m 17 #[rv r0, iv 0, iv 3, rv b1, iv 2, .unset] [(.int (3 : Int32)), (.int (2 : Int32))])) t → Steps p.tables e below (s₁.setTop (entryFrame m #[(.ref r0), (.int (0 : Int32)), (.int (3 : Int32))] 6)) t := by
   intro t kt
   refine G0 _ ?_
   refine XS.iloadN X0.here hx rfl (hb hby d5_0) rfl ?_
   refine st1 _ ?_
   refine XS.astoreN X1.here hx rfl (hb hby d5_3) rfl rfl (l' := #[rv r0, iv 0, iv 3, rv b1, .unset, .unset]) rfl ?_
   refine XS.aloadN X1.here hx rfl (hb hby d5_4) rfl rfl ?_
   refine XS.iloadN X1.here hx rfl (hb hby d5_5) rfl ?_
   refine XS.aloadN X1.here hx rfl (hb hby d5_6) rfl rfl ?_
   refine XS.iconst X1.here hx rfl (hb hby d5_7) ?_
   refine XS.iloadN X1.here hx rfl (hb hby d5_8) rfl ?_
   refine st7 _ ?_
   refine XS.istore X7.here hx rfl (hb hby d5_12) rfl (l' := #[rv r0, iv 0, iv 3, rv b1, iv 2, .unset]) rfl ?_
   refine XS.iload X7.here hx rfl (hb hby d5_14) rfl ?_
   refine XS.iloadN X7.here hx rfl (hb hby d5_16) rfl ?_
   exact kt
  obtain ⟨_, _, ⟨T39, L39, k39, n39⟩, -, X39, ⟨Lc39, hQ39, l39, y39, z39⟩, st39⟩ := Jvm.LawKit.callS X7 hx (y := (⟨"java/lang/StringUTF16", "toBytes", "([CII)[B"⟩ : MethodName)) hown (mvT hZ (hw _ (List.mem_of_getElem? (i := 40) rfl))) (mvT hZ (hw _ (List.mem_of_getElem? (i := 41) rfl))) (mvT hZ (hw _ (List.mem_of_getElem? (i := 22) rfl))) (mvT hZ (hw _ (List.mem_of_getElem? (i := 42) rfl))) (by decide) (backOf (W := 0) (rmTB_3 l Z a0 hw [] r0 c0 c1 c2 ks cst fv T7.heap n0 z36 fa34 fa35 SS) hZ (hw _ (List.mem_of_getElem? (i := 42) rfl)) (hw _ (List.mem_of_getElem? (i := 22) rfl)) (by decide) (by decide)) (g := (mkF m 23 #[rv r0, iv 0, iv 3, rv b1, iv 2, .unset] [(.int (3 : Int32)), (.int (0 : Int32)), (.ref r0)])) rfl (by rw [hml]; rfl) (argsL := [(.ref r0), (.int (0 : Int32)), (.int (3 : Int32))]) (rest := []) (lenOf pd_10 rfl) rfl (by show 2 * 0 + _ ≤ _; exact Nat.le_of_eq rfl) (hb hby d5_23) (fun _ _ => ⟨rfl, rfl, (by decide : 1 + 1 ≤ _), (by decide : 3 + 6 ≤ _)⟩)
  dsimp only [Pt.U, Pt.locs, Pt.cells, Pt.slots] at X39 l39 y39 z39 st39 hQ39
  subst l39 y39 z39
  obtain ⟨b39, kb39, rfl, N39q, K39, g_b39, sz39, V39⟩ := hQ39
  have N39 := Fr.app N7 N39q
  have szk39 : h0.size ≤ b39 := Nat.le_trans kp37.1 sz39
  have ne_r0_b39 : r0 ≠ b39 := Nat.ne_of_lt (Nat.lt_of_lt_of_le fa34.lt sz39)
  have fa40 : Arv Z T39.heap r0 ks .char (3 : Int32) [(.int c0), (.int c1), (.int c2)] (.int (0 : Int32)) := fa34.keep K39 nin0
  have fa41 : Old Z n0 T39.heap := fa35.keep K39 all0
  have z42 : n0 ≤ T39.heap.size := Nat.le_trans z36 K39.1
  have kp43 : Keep h0 T39.heap [] := kp37.trans K39 all0
  obtain ⟨_, _, ⟨T44, L44, k44, n44⟩, -, X44, ⟨Lc44, hQ44, l44, y44, z44⟩, st44⟩ := Jvm.LawKit.callS X39 hx (y := (⟨"java/lang/StringUTF16", "getChar", "([BI)C"⟩ : MethodName)) hown (mvT hZ (hw _ (List.mem_of_getElem? (i := 56) rfl))) (mvT hZ (hw _ (List.mem_of_getElem? (i := 57) rfl))) (mvT hZ (hw _ (List.mem_of_getElem? (i := 22) rfl))) (mvT hZ (hw _ (List.mem_of_getElem? (i := 58) rfl))) (by decide) (backOf (W := 0) (rm13 l Z a0 hw [] b39 (2 : Int32) kb39 (6 : Int32) [(.int (nar .byte ((c0 >>> ((0 : Int32) &&& 31)).toInt8.toInt32))), (.int (nar .byte ((c0 >>> ((8 : Int32) &&& 31)).toInt8.toInt32))), (.int (nar .byte ((c1 >>> ((0 : Int32) &&& 31)).toInt8.toInt32))), (.int (nar .byte ((c1 >>> ((8 : Int32) &&& 31)).toInt8.toInt32))), (.int (nar .byte ((c2 >>> ((0 : Int32) &&& 31)).toInt8.toInt32))), (.int (nar .byte ((c2 >>> ((8 : Int32) &&& 31)).toInt8.toInt32)))] (nar .byte ((c2 >>> ((0 : Int32) &&& 31)).toInt8.toInt32)) (nar .byte ((c2 >>> ((8 : Int32) &&& 31)).toInt8.toInt32)) cst fv T39.heap n0 z42 V39 fa41 (by decide) (by decide) rfl rfl SS) hZ (hw _ (List.mem_of_getElem? (i := 58) rfl)) (hw _ (List.mem_of_getElem? (i := 22) rfl)) (by decide) (by decide)) (g := (mkF m 32 #[rv r0, iv 0, iv 3, rv b1, iv 2, rv b39] [(.int (2 : Int32)), (.ref b39)])) rfl (by rw [hml]; rfl) (argsL := [(.ref b39), (.int (2 : Int32))]) (rest := []) (lenOf pd_4 rfl) rfl (by show 2 * 0 + _ ≤ _; exact Nat.le_of_eq rfl) (hb hby d5_32) (fun _ _ => ⟨rfl, rfl, (by decide : 2 + 0 ≤ _), (by decide : 9 + 0 ≤ _)⟩)
  dsimp only [Pt.U, Pt.locs, Pt.cells, Pt.slots] at X44 l44 y44 z44 st44 hQ44
  subst l44 y44 z44
  obtain ⟨rfl, N44q, eh44⟩ := hQ44
  have N44 := Fr.app N39 N44q
  have G45 : ∀ t, Steps p.tables e below (T44.setTop (mkF m 38 #[rv r0, iv 0, iv 3, rv b1, iv 2, rv b39] [(.int (255 : Int32)), (.int (fget (nar .byte ((c2 >>> ((0 : Int32) &&& 31)).toInt8.toInt32)) (nar .byte ((c2 >>> ((8 : Int32) &&& 31)).toInt8.toInt32))))])) t → Steps p.tables e below (s₁.setTop (entryFrame m #[(.ref r0), (.int (0 : Int32)), (.int (3 : Int32))] 6)) t := by
   intro t kt
   refine G38 _ ?_
   refine XS.icmpNo X7.here hx rfl (hb hby d5_17) rfl (feq (by decide)).1 ?_
   refine XS.aloadN X7.here hx rfl (hb hby d5_20) rfl rfl ?_
   refine XS.iloadN X7.here hx rfl (hb hby d5_21) rfl ?_
   refine XS.iloadN X7.here hx rfl (hb hby d5_22) rfl ?_
   refine st39 _ ?_
   refine XS.astore X39.here hx rfl (hb hby d5_26) rfl rfl (l' := #[rv r0, iv 0, iv 3, rv b1, iv 2, rv b39]) rfl ?_
   refine XS.aload X39.here hx rfl (hb hby d5_28) rfl rfl ?_
   refine XS.iload X39.here hx rfl (hb hby d5_30) rfl ?_
   show Steps p.tables e below (T39.setTop (mkF m 32 #[rv r0, iv 0, iv 3, rv b1, iv 2, rv b39] [(.int (2 : Int32)), (.ref b39)])) _
   refine st44 _ ?_
   refine XS.sipush X44.here hx rfl (hb hby d5_35) ?_
   exact kt
  have hc38_46 : (255 : Int32) < (fget (nar .byte ((c2 >>> ((0 : Int32) &&& 31)).toInt8.toInt32)) (nar .byte ((c2 >>> ((8 : Int32) &&& 31)).toInt8.toInt32))) := by rw [own_u16 c2 hb2]; exact hq7_2
  obtain ⟨fs, hr, hrun, hended, hW, hsame⟩ := X44.leave (v := some (.ref b39)) (fun h => by rw [Bd.returns] at h; cases h)
  refine ⟨_, _, G45 _ ?_, hrun, hended, _, _, rfl, ?_, ⟨_, rfl⟩, hW, hsame.mono (by decide) (by decide)⟩
  ·skip
   refine XS.icmpYes X44.here hx rfl (pc0 := 38) (pc' := 54) rfl (hb hby d5_38) rfl (tlt hc38_46).2.2.1 (by decide) (by decide) ?_
   refine XS.aload X44.here hx rfl (hb hby d5_54) rfl rfl ?_
   exact retOut X44 hx Bd.returns rfl (Or.inr (Or.inr (Or.inr (Or.inr ⟨rfl, rfl, rfl⟩)))) (hb hby d5_56) hr
  ·show QC3_3 Z r0 c0 c1 c2 ks cst fv h0 n0 _ T44.heap _
   rw [eh44]
   exact Or.inr ⟨b39, kb39, rfl, N44, kp43, g_b39, szk39, (Or.inr (Or.inr (hq7_2))), V39⟩
 ·skip
  have N7 := Fr.app N0 N7q
  have fa47 : Arv Z T7.heap r0 ks .char (3 : Int32) [(.int c0), (.int c1), (.int c2)] (.int (0 : Int32)) := fa2.keep K7 (ninS ne_r0_b1 nin0)
  have fa48 : Old Z n0 T7.heap := fa3.keep K7 (allS g_b1 all0)
  have z49 : n0 ≤ T7.heap.size := Nat.le_trans z4 K7.1
  have kp50 : Keep h0 T7.heap [] := kp5.trans K7 (allS (Or.inr sz_b1) all0)
  have G51 : ∀ t, Steps p.tables e below (T7.setTop (mkF m 17 #[rv r0, iv 0, iv 3, rv b1, iv 3, .unset] [(.int (3 : Int32)), (.int (3 : Int32))])) t → Steps p.tables e below (s₁.setTop (entryFrame m #[(.ref r0), (.int (0 : Int32)), (.int (3 : Int32))] 6)) t := by
   intro t kt
   refine G0 _ ?_
   refine XS.iloadN X0.here hx rfl (hb hby d5_0) rfl ?_
   refine st1 _ ?_
   refine XS.astoreN X1.here hx rfl (hb hby d5_3) rfl rfl (l' := #[rv r0, iv 0, iv 3, rv b1, .unset, .unset]) rfl ?_
   refine XS.aloadN X1.here hx rfl (hb hby d5_4) rfl rfl ?_
   refine XS.iloadN X1.here hx rfl (hb hby d5_5) rfl ?_
   refine XS.aloadN X1.here hx rfl (hb hby d5_6) rfl rfl ?_
   refine XS.iconst X1.here hx rfl (hb hby d5_7) ?_
   refine XS.iloadN X1.here hx rfl (hb hby d5_8) rfl ?_
   refine st7 _ ?_
   refine XS.istore X7.here hx rfl (hb hby d5_12) rfl (l' := #[rv r0, iv 0, iv 3, rv b1, iv 3, .unset]) rfl ?_
   refine XS.iload X7.here hx rfl (hb hby d5_14) rfl ?_
   refine XS.iloadN X7.here hx rfl (hb hby d5_16) rfl ?_
   exact kt
  obtain ⟨fs, hr, hrun, hended, hW, hsame⟩ := X7.leave (v := some (.ref b1)) (fun h => by rw [Bd.returns] at h; cases h)
  refine ⟨_, _, G51 _ ?_, hrun, hended, _, _, rfl, ?_, ⟨_, rfl⟩, hW, hsame.mono (by decide) (by decide)⟩
  ·skip
   refine XS.icmpYes X7.here hx rfl (pc0 := 17) (pc' := 57) rfl (hb hby d5_17) rfl (teq (by decide)).1 (by decide) (by decide) ?_
   refine XS.aloadN X7.here hx rfl (hb hby d5_57) rfl rfl ?_
   exact retOut X7 hx Bd.returns rfl (Or.inr (Or.inr (Or.inr (Or.inr ⟨rfl, rfl, rfl⟩)))) (hb hby d5_58) hr
  ·show QC3_3 Z r0 c0 c1 c2 ks cst fv h0 n0 _ T7.heap _
   exact Or.inl ⟨b1, k1, rfl, N7, kp50, g_b1, sz_b1, ⟨hq7_0, hq7_1, hq7_2⟩, V7⟩
theorem d7_0 : decode jdk_52_method_15_code 0 = .ok (.iload_n 1, 1) := by decide +kernel
theorem d7_1 : decode jdk_52_method_15_code 1 = .ok (.aload_n 0, 1) := by decide +kernel
theorem d7_2 : decode jdk_52_method_15_code 2 = .ok (.arraylength, 1) := by decide +kernel
theorem d7_3 : decode jdk_52_method_15_code 3 = .ok (.isub, 1) := by decide +kernel
theorem d7_4 : decode jdk_52_method_15_code 4 = .ok (.bipush 31, 2) := by decide +kernel
theorem d7_6 : decode jdk_52_method_15_code 6 = .ok (.iushr, 1) := by decide +kernel
theorem d7_7 : decode jdk_52_method_15_code 7 = .ok (.i2b, 1) := by decide +kernel
theorem d7_8 : decode jdk_52_method_15_code 8 = .ok (.ireturn, 1) := by decide +kernel
def QCF_3_3 (Z : State) (r0 : Addr) (kk : ClassId) (vs : List Value) (h0 : Heap) (n0 : Nat) (v : Option Value) (h : Heap) (L : List Loc) : Prop := v = some (.int (0 : Int32)) ∧ Fr n0 L ∧ h = h0
theorem ef_rmCF_3_3 (m : MethodId) (x0 : Addr) (x1 : Int32) : entryFrame m #[(.ref x0), (.int x1)] 2 = mkF m 0 #[.val (.ref x0), .val (.int x1)] [] := by first | (simp [entryFrame, mkF, argsToLocals, Value.category]; done) | rfl
set_option maxRecDepth 65536 in
set_option maxHeartbeats 40000000 in
theorem rmCF_3_3 (l : Launch) (Z : State) (a0 : Array Value) (hw : ∀ d ∈ tables_1, d.before a0 Z = true) (ws : List Jvm.Cond) (r0 : Addr) (kk : ClassId) (vs : List Value) (h0 : Heap) (n0 : Nat) (Z0 : n0 ≤ h0.size) (V0 : Arv Z h0 r0 kk .byte (3 : Int32) vs (.int (0 : Int32))) :
  MetFree l (⟨"java/lang/StringUTF16", "coderFromArrayLen", "([BI)B"⟩ : MethodName) (head1 (Jvm.Cond.code (⟨"java/lang/StringUTF16", "coderFromArrayLen", "([BI)B"⟩ : MethodName) jdk_52_method_15_code 2 (some .byte) :: ws) ({ frames := 0, cells := 0, slots := 0, locals := 0 } : Room)) (fun a U => a = #[(.ref r0), (.int (3 : Int32))] ∧ Z.Warmed39 U.vm ∧ U.heap = h0) (fun _ _ _ _ _ => True) (fun _ U o U' => ∃ v L, o = .returned v ∧ QCF_3_3 Z r0 kk vs h0 n0 v U'.heap L ∧ FrameEnd U o U' L ({ frames := 0, cells := 0, slots := 0, locals := 0 } : Room).cells ({ frames := 0, cells := 0, slots := 0, locals := 0 } : Room).slots) := by
 refine MetFree.of_bodySF (plainFor_of_name pnc_java_lang_StringUTF16) hisR ?_
 intro p e s m args below meth c s₁ Bd hml0 hP hK
 obtain ⟨rfl, hZ, hh⟩ := hP
 have hx := Bd.exec
 have hby := Bd.bytes
 have hml : c.maxLocals = 2 := hml0
 have hown : s.vm.findClass "java/lang/StringUTF16" = some m.cls := findClass_of_methodNamed Bd.named
 have hnm := (name_of_methodNamed Bd.named Bd.method).1
 have X0 : Stand p l e ({ frames := 0, cells := 0, slots := 0, locals := 0 } : Room) s m #[(.ref r0), (.int (3 : Int32))] below meth c s₁ [] 0 0 := Stand.of_body Bd
 have e0 : s₁.heap = h0 := by rw [← hh, Bd.state]; rfl
 have N0 := Fr.nil n0
 have kp0 : Keep h0 h0 [] := Keep.refl _ _
 have G0 : ∀ t, Steps p.tables e below (s₁.setTop (mkF m 0 #[rv r0, iv 3] [])) t → Steps p.tables e below (s₁.setTop (entryFrame m #[(.ref r0), (.int (3 : Int32))] 2)) t := fun t k => castTop (ef_rmCF_3_3 m r0 (3 : Int32)) k
 obtain ⟨cl1, Ar1, q1, S1, M1, H1, G1⟩ := id V0
 obtain ⟨fs, hr, hrun, hended, hW, hsame⟩ := X0.leave (v := some (.int (0 : Int32))) (fun h => by rw [Bd.returns] at h; cases h)
 refine ⟨_, _, G0 _ ?_, hrun, hended, _, _, rfl, ?_, ⟨_, rfl⟩, hW, hsame.mono (by decide) (by decide)⟩
 ·skip
  refine XS.iloadN X0.here hx rfl (hb hby d7_0) rfl ?_
  refine XS.aloadN X0.here hx rfl (hb hby d7_1) rfl rfl ?_
  refine X0.arraylength hx (by rw [e0]; exact Ar1.1) (State.isArrayOf_alike hZ.alike Ar1.2.1) (g := (mkF m 2 #[rv r0, iv 3] [(.ref r0), (.int (3 : Int32))])) rfl rfl (hb hby d7_2) _ ?_
  rw [len_of S1 M1]
  refine XS.isub X0.here hx rfl (hb hby d7_3) rfl ?_
  refine XS.bipush X0.here hx rfl (hb hby d7_4) ?_
  refine XS.iushr X0.here hx rfl (hb hby d7_6) rfl ?_
  refine XS.i2b X0.here hx rfl (hb hby d7_7) rfl ?_
  exact retN X0 hx (t := .byte) Bd.returns (by simp) (hb hby d7_8) hr
 ·show QCF_3_3 Z r0 kk vs h0 n0 _ s₁.heap _
  rw [e0]
  exact ⟨rfl, N0, rfl⟩
def QCF_3_6 (Z : State) (r0 : Addr) (kk : ClassId) (vs : List Value) (h0 : Heap) (n0 : Nat) (v : Option Value) (h : Heap) (L : List Loc) : Prop := v = some (.int (1 : Int32)) ∧ Fr n0 L ∧ h = h0
theorem ef_rmCF_3_6 (m : MethodId) (x0 : Addr) (x1 : Int32) : entryFrame m #[(.ref x0), (.int x1)] 2 = mkF m 0 #[.val (.ref x0), .val (.int x1)] [] := by first | (simp [entryFrame, mkF, argsToLocals, Value.category]; done) | rfl
set_option maxRecDepth 65536 in
set_option maxHeartbeats 40000000 in
theorem rmCF_3_6 (l : Launch) (Z : State) (a0 : Array Value) (hw : ∀ d ∈ tables_1, d.before a0 Z = true) (ws : List Jvm.Cond) (r0 : Addr) (kk : ClassId) (vs : List Value) (h0 : Heap) (n0 : Nat) (Z0 : n0 ≤ h0.size) (V0 : Arv Z h0 r0 kk .byte (6 : Int32) vs (.int (0 : Int32))) :
  MetFree l (⟨"java/lang/StringUTF16", "coderFromArrayLen", "([BI)B"⟩ : MethodName) (head1 (Jvm.Cond.code (⟨"java/lang/StringUTF16", "coderFromArrayLen", "([BI)B"⟩ : MethodName) jdk_52_method_15_code 2 (some .byte) :: ws) ({ frames := 0, cells := 0, slots := 0, locals := 0 } : Room)) (fun a U => a = #[(.ref r0), (.int (3 : Int32))] ∧ Z.Warmed39 U.vm ∧ U.heap = h0) (fun _ _ _ _ _ => True) (fun _ U o U' => ∃ v L, o = .returned v ∧ QCF_3_6 Z r0 kk vs h0 n0 v U'.heap L ∧ FrameEnd U o U' L ({ frames := 0, cells := 0, slots := 0, locals := 0 } : Room).cells ({ frames := 0, cells := 0, slots := 0, locals := 0 } : Room).slots) := by
 refine MetFree.of_bodySF (plainFor_of_name pnc_java_lang_StringUTF16) hisR ?_
 intro p e s m args below meth c s₁ Bd hml0 hP hK
 obtain ⟨rfl, hZ, hh⟩ := hP
 have hx := Bd.exec
 have hby := Bd.bytes
 have hml : c.maxLocals = 2 := hml0
 have hown : s.vm.findClass "java/lang/StringUTF16" = some m.cls := findClass_of_methodNamed Bd.named
 have hnm := (name_of_methodNamed Bd.named Bd.method).1
 have X0 : Stand p l e ({ frames := 0, cells := 0, slots := 0, locals := 0 } : Room) s m #[(.ref r0), (.int (3 : Int32))] below meth c s₁ [] 0 0 := Stand.of_body Bd
 have e0 : s₁.heap = h0 := by rw [← hh, Bd.state]; rfl
 have N0 := Fr.nil n0
 have kp0 : Keep h0 h0 [] := Keep.refl _ _
 have G0 : ∀ t, Steps p.tables e below (s₁.setTop (mkF m 0 #[rv r0, iv 3] [])) t → Steps p.tables e below (s₁.setTop (entryFrame m #[(.ref r0), (.int (3 : Int32))] 2)) t := fun t k => castTop (ef_rmCF_3_6 m r0 (3 : Int32)) k
 obtain ⟨cl1, Ar1, q1, S1, M1, H1, G1⟩ := id V0
 obtain ⟨fs, hr, hrun, hended, hW, hsame⟩ := X0.leave (v := some (.int (1 : Int32))) (fun h => by rw [Bd.returns] at h; cases h)
 refine ⟨_, _, G0 _ ?_, hrun, hended, _, _, rfl, ?_, ⟨_, rfl⟩, hW, hsame.mono (by decide) (by decide)⟩
 ·skip
  refine XS.iloadN X0.here hx rfl (hb hby d7_0) rfl ?_
  refine XS.aloadN X0.here hx rfl (hb hby d7_1) rfl rfl ?_
  refine X0.arraylength hx (by rw [e0]; exact Ar1.1) (State.isArrayOf_alike hZ.alike Ar1.2.1) (g := (mkF m 2 #[rv r0, iv 3] [(.ref r0), (.int (3 : Int32))])) rfl rfl (hb hby d7_2) _ ?_
  rw [len_of S1 M1]
  refine XS.isub X0.here hx rfl (hb hby d7_3) rfl ?_
  refine XS.bipush X0.here hx rfl (hb hby d7_4) ?_
  refine XS.iushr X0.here hx rfl (hb hby d7_6) rfl ?_
  refine XS.i2b X0.here hx rfl (hb hby d7_7) rfl ?_
  exact retN X0 hx (t := .byte) Bd.returns (by simp) (hb hby d7_8) hr
 ·show QCF_3_6 Z r0 kk vs h0 n0 _ s₁.heap _
  rw [e0]
  exact ⟨rfl, N0, rfl⟩
theorem d3_0 : decode jdk_42_method_149_code 0 = .ok (.aload_n 0, 1) := by decide +kernel
theorem d3_1 : decode jdk_42_method_149_code 1 = .ok (.invokespecial 1, 3) := by decide +kernel
theorem d3_4 : decode jdk_42_method_149_code 4 = .ok (.iload_n 3, 1) := by decide +kernel
theorem d3_5 : decode jdk_42_method_149_code 5 = .ok (.ifCond .ne 22, 3) := by decide +kernel
theorem d3_27 : decode jdk_42_method_149_code 27 = .ok (.getstatic 38, 3) := by decide +kernel
theorem d3_30 : decode jdk_42_method_149_code 30 = .ok (.ifCond .eq 28, 3) := by decide +kernel
theorem d3_33 : decode jdk_42_method_149_code 33 = .ok (.aload_n 1, 1) := by decide +kernel
theorem d3_34 : decode jdk_42_method_149_code 34 = .ok (.iload_n 2, 1) := by decide +kernel
theorem d3_35 : decode jdk_42_method_149_code 35 = .ok (.iload_n 3, 1) := by decide +kernel
theorem d3_36 : decode jdk_42_method_149_code 36 = .ok (.invokestatic 177, 3) := by decide +kernel
theorem d3_39 : decode jdk_42_method_149_code 39 = .ok (.astore 5, 2) := by decide +kernel
theorem d3_41 : decode jdk_42_method_149_code 41 = .ok (.aload_n 0, 1) := by decide +kernel
theorem d3_42 : decode jdk_42_method_149_code 42 = .ok (.aload 5, 2) := by decide +kernel
theorem d3_44 : decode jdk_42_method_149_code 44 = .ok (.iload_n 3, 1) := by decide +kernel
theorem d3_45 : decode jdk_42_method_149_code 45 = .ok (.invokestatic 47, 3) := by decide +kernel
theorem pd_11 : parseMethodDescriptor "([BI)B" = some ⟨[(.array .byte), .int], some .byte⟩ := by decide +kernel
theorem d3_48 : decode jdk_42_method_149_code 48 = .ok (.putfield 15, 3) := by decide +kernel
theorem d3_51 : decode jdk_42_method_149_code 51 = .ok (.aload_n 0, 1) := by decide +kernel
theorem d3_52 : decode jdk_42_method_149_code 52 = .ok (.aload 5, 2) := by decide +kernel
theorem d3_54 : decode jdk_42_method_149_code 54 = .ok (.putfield 9, 3) := by decide +kernel
theorem d3_57 : decode jdk_42_method_149_code 57 = .ok (.return_, 1) := by decide +kernel
def QSE_3 (Z : State) (r0 : Addr) (r1 : Addr) (c0 c1 c2 : Int32) (ks : ClassId) (cst : Int32) (fv : Value) (h0 : Heap) (n0 : Nat) (v : Option Value) (h : Heap) (L : List Loc) : Prop := (v = none ∧ Fr n0 L ∧ Keep h0 h [r0] ∧ Exa Z h r0 "java/lang/String" ∧ (¬ ((255 : Int32) < c0) ∧ ¬ ((255 : Int32) < c1) ∧ ¬ ((255 : Int32) < c2)) ∧ Fld Z h r0 "java/lang/String" "coder" "B" (.int (0 : Int32)) ∧ ∃ (t : Addr) (k : ClassId), Fld Z h r0 "java/lang/String" "value" "[B" (.ref t) ∧ h0.size ≤ t ∧ n0 ≤ t ∧ Arv Z h t k .byte (3 : Int32) [(.int (nar .byte (c0.toInt8.toInt32))), (.int (nar .byte (c1.toInt8.toInt32))), (.int (nar .byte (c2.toInt8.toInt32)))] (.int (0 : Int32))) ∨ (v = none ∧ Fr n0 L ∧ Keep h0 h [r0] ∧ Exa Z h r0 "java/lang/String" ∧ ((255 : Int32) < c0 ∨ (255 : Int32) < c1 ∨ (255 : Int32) < c2) ∧ Fld Z h r0 "java/lang/String" "coder" "B" (.int (1 : Int32)) ∧ ∃ (t : Addr) (k : ClassId), Fld Z h r0 "java/lang/String" "value" "[B" (.ref t) ∧ h0.size ≤ t ∧ n0 ≤ t ∧ Arv Z h t k .byte (6 : Int32) [(.int (nar .byte ((c0 >>> ((0 : Int32) &&& 31)).toInt8.toInt32))), (.int (nar .byte ((c0 >>> ((8 : Int32) &&& 31)).toInt8.toInt32))), (.int (nar .byte ((c1 >>> ((0 : Int32) &&& 31)).toInt8.toInt32))), (.int (nar .byte ((c1 >>> ((8 : Int32) &&& 31)).toInt8.toInt32))), (.int (nar .byte ((c2 >>> ((0 : Int32) &&& 31)).toInt8.toInt32))), (.int (nar .byte ((c2 >>> ((8 : Int32) &&& 31)).toInt8.toInt32)))] (.int (0 : Int32)))
theorem ef_rmSE_3 (m : MethodId) (x0 : Addr) (x1 : Addr) (x2 : Int32) (x3 : Int32) : entryFrame m #[(.ref x0), (.ref x1), (.int x2), (.int x3), .null] 6 = mkF m 0 #[.val (.ref x0), .val (.ref x1), .val (.int x2), .val (.int x3), .val .null, .unset] [] := by first | (simp [entryFrame, mkF, argsToLocals, Value.category]; done) | rfl
set_option maxRecDepth 65536 in
set_option maxHeartbeats 40000000 in
theorem rmSE_3 (l : Launch) (Z : State) (a0 : Array Value) (hw : ∀ d ∈ tables_1, d.before a0 Z = true) (ws : List Jvm.Cond) (r0 : Addr) (r1 : Addr) (c0 c1 c2 : Int32) (ks : ClassId) (cst : Int32) (fv : Value) (h0 : Heap) (n0 : Nat) (Z0 : n0 ≤ h0.size) (E0 : Exa Z h0 r0 "java/lang/String") (Fv : Fld Z h0 r0 "java/lang/String" "value" "[B" .null) (Fc : Fld Z h0 r0 "java/lang/String" "coder" "B" (.int (0 : Int32))) (Vs : Arv Z h0 r1 ks .char (3 : Int32) [(.int c0), (.int c1), (.int c2)] (.int (0 : Int32))) (O0 : Old Z n0 h0) (g_r0 : n0 ≤ r0) (hne : r0 ≠ r1) (hb0 : 0 ≤ c0.toInt ∧ c0.toInt ≤ 65535) (hb1 : 0 ≤ c1.toInt ∧ c1.toInt ≤ 65535) (hb2 : 0 ≤ c2.toInt ∧ c2.toInt ≤ 65535) (SS : Sts Z cst fv) :
  MetFree l (⟨"java/lang/String", "<init>", "([CIILjava/lang/Void;)V"⟩ : MethodName) (head1 (Jvm.Cond.code (⟨"java/lang/String", "<init>", "([CIILjava/lang/Void;)V"⟩ : MethodName) jdk_42_method_149_code 6 none :: ws) ({ frames := 4, cells := 2, slots := 9, locals := 57 } : Room)) (fun a U => a = #[(.ref r0), (.ref r1), (.int (0 : Int32)), (.int (3 : Int32)), .null] ∧ Z.Warmed39 U.vm ∧ U.heap = h0) (fun _ _ _ _ _ => True) (fun _ U o U' => ∃ v L, o = .returned v ∧ QSE_3 Z r0 r1 c0 c1 c2 ks cst fv h0 n0 v U'.heap L ∧ FrameEnd U o U' L ({ frames := 4, cells := 2, slots := 9, locals := 57 } : Room).cells ({ frames := 4, cells := 2, slots := 9, locals := 57 } : Room).slots) := by
 refine MetFree.of_bodySF (plainFor_of_name pnc_java_lang_String) hisR ?_
 intro p e s m args below meth c s₁ Bd hml0 hP hK
 obtain ⟨rfl, hZ, hh⟩ := hP
 have hx := Bd.exec
 have hby := Bd.bytes
 have hml : c.maxLocals = 6 := hml0
 have hown : s.vm.findClass "java/lang/String" = some m.cls := findClass_of_methodNamed Bd.named
 have hnm := (name_of_methodNamed Bd.named Bd.method).1
 have X0 : Stand p l e ({ frames := 4, cells := 2, slots := 9, locals := 57 } : Room) s m #[(.ref r0), (.ref r1), (.int (0 : Int32)), (.int (3 : Int32)), .null] below meth c s₁ [] 0 0 := Stand.of_body Bd
 have e0 : s₁.heap = h0 := by rw [← hh, Bd.state]; rfl
 have N0 := Fr.nil n0
 have kp0 : Keep h0 h0 [r0] := Keep.refl _ _
 have G0 : ∀ t, Steps p.tables e below (s₁.setTop (mkF m 0 #[rv r0, rv r1, iv 0, iv 3, .val .null, .unset] [])) t → Steps p.tables e below (s₁.setTop (entryFrame m #[(.ref r0), (.ref r1), (.int (0 : Int32)), (.int (3 : Int32)), .null] 6)) t := fun t k => castTop (ef_rmSE_3 m r0 r1 (0 : Int32) (3 : Int32)) k
 obtain ⟨T1, X1, e1, st1⟩ := initO X0 hx hZ hown (hw _ (List.mem_of_getElem? (i := 16) rfl)) (hw _ (List.mem_of_getElem? (i := 17) rfl)) (hw _ (List.mem_of_getElem? (i := 18) rfl)) e0 (g := (mkF m 1 #[rv r0, rv r1, iv 0, iv 3, .val .null, .unset] [(.ref r0)])) rfl (by rw [hml]; rfl) rfl (hb hby d3_1) (by decide) (W := 0) (by show 2 * 0 + _ ≤ _; exact Nat.le_of_eq rfl) (by decide)
 have G2 : ∀ t, Steps p.tables e below (T1.setTop (mkF m 5 #[rv r0, rv r1, iv 0, iv 3, .val .null, .unset] [(.int (3 : Int32))])) t → Steps p.tables e below (s₁.setTop (entryFrame m #[(.ref r0), (.ref r1), (.int (0 : Int32)), (.int (3 : Int32)), .null] 6)) t := by
  intro t kt
  refine G0 _ ?_
  refine XS.aloadN X0.here hx rfl (hb hby d3_0) rfl rfl ?_
  refine st1 _ ?_
  refine XS.iloadN X1.here hx rfl (hb hby d3_4) rfl ?_
  exact kt
 obtain ⟨T3, X3, e3, st3⟩ := getS2 X1 hx hZ hown (host := "") (Or.inl (hw _ (List.mem_of_getElem? (i := 19) rfl))) Via.refl e1 (SS.1.ext O0.2) (g := (mkF m 27 #[rv r0, rv r1, iv 0, iv 3, .val .null, .unset] [])) rfl (hb hby d3_27)
 have G4 : ∀ t, Steps p.tables e below (T3.setTop (mkF m 30 #[rv r0, rv r1, iv 0, iv 3, .val .null, .unset] [(.int cst)])) t → Steps p.tables e below (s₁.setTop (entryFrame m #[(.ref r0), (.ref r1), (.int (0 : Int32)), (.int (3 : Int32)), .null] 6)) t := by
  intro t kt
  refine G2 _ ?_
  refine XS.ifYes X1.here hx rfl (pc0 := 5) (pc' := 27) rfl (hb hby d3_5) rfl ((if0 _ _).trans (feq (by decide)).2) (by decide) (by decide) ?_
  refine st3 _ ?_
  exact kt
 have hc30_5 : ¬ (cst = (0 : Int32)) := SS.2.1
 obtain ⟨_, _, ⟨T6, L6, k6, n6⟩, -, X6, ⟨Lc6, hQ6, l6, y6, z6⟩, st6⟩ := Jvm.LawKit.callS X3 hx (y := (⟨"java/lang/StringUTF16", "compress", "([CII)[B"⟩ : MethodName)) hown (mvT hZ (hw _ (List.mem_of_getElem? (i := 20) rfl))) (mvT hZ (hw _ (List.mem_of_getElem? (i := 21) rfl))) (mvT hZ (hw _ (List.mem_of_getElem? (i := 22) rfl))) (mvT hZ (hw _ (List.mem_of_getElem? (i := 23) rfl))) (by decide) (backOf (W := 0) (rmC3_3 l Z a0 hw [] r1 c0 c1 c2 ks cst fv h0 n0 Z0 Vs O0 hb0 hb1 hb2 SS) hZ (hw _ (List.mem_of_getElem? (i := 23) rfl)) (hw _ (List.mem_of_getElem? (i := 22) rfl)) (by decide) (by decide)) (g := (mkF m 36 #[rv r0, rv r1, iv 0, iv 3, .val .null, .unset] [(.int (3 : Int32)), (.int (0 : Int32)), (.ref r1)])) rfl (by rw [hml]; rfl) (argsL := [(.ref r1), (.int (0 : Int32)), (.int (3 : Int32))]) (rest := []) (lenOf pd_10 rfl) rfl (by show 2 * 0 + _ ≤ _; exact Nat.le_of_eq rfl) (hb hby d3_36) (fun _ _ => ⟨rfl, e3, (by decide : 0 + 2 ≤ _), (by decide : 0 + 9 ≤ _)⟩)
 dsimp only [Pt.U, Pt.locs, Pt.cells, Pt.slots] at X6 l6 y6 z6 st6 hQ6
 subst l6 y6 z6
 rcases hQ6 with ⟨b6, kb6, rfl, N6q, K6, g_b6, sz6, hq6, V6⟩ | ⟨b6, kb6, rfl, N6q, K6, g_b6, sz6, hq6, V6⟩
 ·skip
  have N6 := Fr.app N0 N6q
  have szk6 : h0.size ≤ b6 := Nat.le_trans kp0.1 sz6
  have ne_r0_b6 : r0 ≠ b6 := Nat.ne_of_lt (Nat.lt_of_lt_of_le E0.lt sz6)
  have ne_r1_b6 : r1 ≠ b6 := Nat.ne_of_lt (Nat.lt_of_lt_of_le Vs.lt sz6)
  have fa7 : Exa Z T6.heap r0 "java/lang/String" := E0.keep K6
  have fa8 : Fld Z T6.heap r0 "java/lang/String" "value" "[B" .null := Fv.keep K6 nin0
  have fa9 : Fld Z T6.heap r0 "java/lang/String" "coder" "B" (.int (0 : Int32)) := Fc.keep K6 nin0
  have fa10 : Arv Z T6.heap r1 ks .char (3 : Int32) [(.int c0), (.int c1), (.int c2)] (.int (0 : Int32)) := Vs.keep K6 nin0
  have fa11 : Old Z n0 T6.heap := O0.keep K6 all0
  have z12 : n0 ≤ T6.heap.size := Nat.le_trans Z0 K6.1
  have kp13 : Keep h0 T6.heap [r0] := kp0.trans K6 all0
  obtain ⟨_, _, ⟨T14, L14, k14, n14⟩, -, X14, ⟨Lc14, hQ14, l14, y14, z14⟩, st14⟩ := Jvm.LawKit.callS X6 hx (y := (⟨"java/lang/StringUTF16", "coderFromArrayLen", "([BI)B"⟩ : MethodName)) hown (mvT hZ (hw _ (List.mem_of_getElem? (i := 28) rfl))) (mvT hZ (hw _ (List.mem_of_getElem? (i := 29) rfl))) (mvT hZ (hw _ (List.mem_of_getElem? (i := 22) rfl))) (mvT hZ (hw _ (List.mem_of_getElem? (i := 30) rfl))) (by decide) (backOf (W := 1) (rmCF_3_3 l Z a0 hw [] b6 kb6 [(.int (nar .byte (c0.toInt8.toInt32))), (.int (nar .byte (c1.toInt8.toInt32))), (.int (nar .byte (c2.toInt8.toInt32)))] T6.heap n0 z12 V6) hZ (hw _ (List.mem_of_getElem? (i := 30) rfl)) (hw _ (List.mem_of_getElem? (i := 22) rfl)) (by decide) (by decide)) (g := (mkF m 45 #[rv r0, rv r1, iv 0, iv 3, .val .null, rv b6] [(.int (3 : Int32)), (.ref b6), (.ref r0)])) rfl (by rw [hml]; rfl) (argsL := [(.ref b6), (.int (3 : Int32))]) (rest := [(.ref r0)]) (lenOf pd_11 rfl) rfl (by show 2 * 0 + _ ≤ _; exact Nat.le_of_eq rfl) (hb hby d3_45) (fun _ _ => ⟨rfl, rfl, (by decide : 2 + 0 ≤ _), (by decide : 9 + 0 ≤ _)⟩)
  dsimp only [Pt.U, Pt.locs, Pt.cells, Pt.slots] at X14 l14 y14 z14 st14 hQ14
  subst l14 y14 z14
  obtain ⟨rfl, N14q, eh14⟩ := hQ14
  have N14 := Fr.app N6 N14q
  obtain ⟨T15, h15, X15, e15, W15, st15⟩ := putFN X14 hx hZ hown (hw _ (List.mem_of_getElem? (i := 31) rfl)) Via.refl eh14 fa9 fa7 (Or.inr ⟨(hw _ (List.mem_of_getElem? (i := 32) rfl)), rfl, hnm⟩) (hw _ (List.mem_of_getElem? (i := 7) rfl)) (ty := .byte) (v' := (.int (0 : Int32))) (by decide) rfl (fits_nar_byte (0 : Int32)) (g := (mkF m 48 #[rv r0, rv r1, iv 0, iv 3, .val .null, rv b6] [(.int (0 : Int32)), (.ref r0)])) rfl rfl (hb hby d3_48)
  have fa16 : Exa Z h15 r0 "java/lang/String" := fa7.wr W15
  have fa17 : Fld Z h15 r0 "java/lang/String" "value" "[B" .null := fa8.other W15 (Or.inr (slot_ne (Or.inr (hw _ (List.mem_of_getElem? (i := 34) rfl))) (Or.inr (hw _ (List.mem_of_getElem? (i := 32) rfl))) (by decide) (t := (.array .byte)) (t' := .byte) (by decide) (by decide)))
  have fa18 : Fld Z h15 r0 "java/lang/String" "coder" "B" (.int (0 : Int32)) := fa9.same W15
  have fa19 : Arv Z h15 r1 ks .char (3 : Int32) [(.int c0), (.int c1), (.int c2)] (.int (0 : Int32)) := fa10.other W15 (Ne.symm hne)
  have fa20 : Old Z n0 h15 := fa11.wr W15 g_r0
  have fa21 : Arv Z h15 b6 kb6 .byte (3 : Int32) [(.int (nar .byte (c0.toInt8.toInt32))), (.int (nar .byte (c1.toInt8.toInt32))), (.int (nar .byte (c2.toInt8.toInt32)))] (.int (0 : Int32)) := V6.other W15 (Ne.symm ne_r0_b6)
  have z22 : n0 ≤ h15.size := Nat.le_trans z12 (Nat.le_of_eq W15.size.symm)
  have kp23 : Keep h0 h15 [r0] := kp13.wr W15 (Or.inl (List.mem_of_getElem? (i := 0) rfl))
  have N15 := Fr.snoc X15 N14 g_r0
  obtain ⟨T24, h24, X24, e24, W24, st24⟩ := putF X15 hx hZ hown (host := "") (Or.inl (hw _ (List.mem_of_getElem? (i := 33) rfl))) Via.refl e15 fa17 fa16 (Or.inr ⟨(hw _ (List.mem_of_getElem? (i := 34) rfl)), rfl, hnm⟩) (hw _ (List.mem_of_getElem? (i := 7) rfl)) (ty := (.array .byte)) (by decide) rfl rfl (g := (mkF m 54 #[rv r0, rv r1, iv 0, iv 3, .val .null, rv b6] [(.ref b6), (.ref r0)])) rfl rfl (hb hby d3_54)
  have fa25 : Exa Z h24 r0 "java/lang/String" := fa16.wr W24
  have fa26 : Fld Z h24 r0 "java/lang/String" "value" "[B" (.ref b6) := fa17.same W24
  have fa27 : Fld Z h24 r0 "java/lang/String" "coder" "B" (.int (0 : Int32)) := fa18.other W24 (Or.inr (slot_ne (Or.inr (hw _ (List.mem_of_getElem? (i := 32) rfl))) (Or.inr (hw _ (List.mem_of_getElem? (i := 34) rfl))) (by decide) (t := .byte) (t' := (.array .byte)) (by decide) (by decide)))
  have fa28 : Arv Z h24 r1 ks .char (3 : Int32) [(.int c0), (.int c1), (.int c2)] (.int (0 : Int32)) := fa19.other W24 (Ne.symm hne)
  have fa29 : Old Z n0 h24 := fa20.wr W24 g_r0
  have fa30 : Arv Z h24 b6 kb6 .byte (3 : Int32) [(.int (nar .byte (c0.toInt8.toInt32))), (.int (nar .byte (c1.toInt8.toInt32))), (.int (nar .byte (c2.toInt8.toInt32)))] (.int (0 : Int32)) := fa21.other W24 (Ne.symm ne_r0_b6)
  have z31 : n0 ≤ h24.size := Nat.le_trans z22 (Nat.le_of_eq W24.size.symm)
  have kp32 : Keep h0 h24 [r0] := kp23.wr W24 (Or.inl (List.mem_of_getElem? (i := 0) rfl))
  have N24 := Fr.snoc X24 N15 g_r0
  obtain ⟨fs, hr, hrun, hended, hW, hsame⟩ := X24.leave (v := none) (fun _ => rfl)
  refine ⟨_, _, G4 _ ?_, hrun, hended, _, _, rfl, ?_, ⟨_, rfl⟩, hW, hsame.mono (by decide) (by decide)⟩
  ·skip
   refine XS.ifNo X3.here hx rfl (hb hby d3_30) rfl ((if0 _ _).trans (feq hc30_5).1) ?_
   refine XS.aloadN X3.here hx rfl (hb hby d3_33) rfl rfl ?_
   refine XS.iloadN X3.here hx rfl (hb hby d3_34) rfl ?_
   refine XS.iloadN X3.here hx rfl (hb hby d3_35) rfl ?_
   refine st6 _ ?_
   refine XS.astore X6.here hx rfl (hb hby d3_39) rfl rfl (l' := #[rv r0, rv r1, iv 0, iv 3, .val .null, rv b6]) rfl ?_
   refine XS.aloadN X6.here hx rfl (hb hby d3_41) rfl rfl ?_
   refine XS.aload X6.here hx rfl (hb hby d3_42) rfl rfl ?_
   refine XS.iloadN X6.here hx rfl (hb hby d3_44) rfl ?_
   refine st14 _ ?_
   refine st15 _ ?_
   refine XS.aloadN X15.here hx rfl (hb hby d3_51) rfl rfl ?_
   refine XS.aload X15.here hx rfl (hb hby d3_52) rfl rfl ?_
   refine st24 _ ?_
   exact X24.returnOut hx Bd.returns (hb hby d3_57) hr
  ·show QSE_3 Z r0 r1 c0 c1 c2 ks cst fv h0 n0 _ T24.heap _
   rw [e24]
   exact Or.inl ⟨rfl, N24, kp32, fa25, hq6, fa27, b6, kb6, fa26, szk6, g_b6, fa30⟩
 ·skip
  have N6 := Fr.app N0 N6q
  have szk6 : h0.size ≤ b6 := Nat.le_trans kp0.1 sz6
  have ne_r0_b6 : r0 ≠ b6 := Nat.ne_of_lt (Nat.lt_of_lt_of_le E0.lt sz6)
  have ne_r1_b6 : r1 ≠ b6 := Nat.ne_of_lt (Nat.lt_of_lt_of_le Vs.lt sz6)
  have fa33 : Exa Z T6.heap r0 "java/lang/String" := E0.keep K6
  have fa34 : Fld Z T6.heap r0 "java/lang/String" "value" "[B" .null := Fv.keep K6 nin0
  have fa35 : Fld Z T6.heap r0 "java/lang/String" "coder" "B" (.int (0 : Int32)) := Fc.keep K6 nin0
  have fa36 : Arv Z T6.heap r1 ks .char (3 : Int32) [(.int c0), (.int c1), (.int c2)] (.int (0 : Int32)) := Vs.keep K6 nin0
  have fa37 : Old Z n0 T6.heap := O0.keep K6 all0
  have z38 : n0 ≤ T6.heap.size := Nat.le_trans Z0 K6.1
  have kp39 : Keep h0 T6.heap [r0] := kp0.trans K6 all0
  obtain ⟨_, _, ⟨T40, L40, k40, n40⟩, -, X40, ⟨Lc40, hQ40, l40, y40, z40⟩, st40⟩ := Jvm.LawKit.callS X6 hx (y := (⟨"java/lang/StringUTF16", "coderFromArrayLen", "([BI)B"⟩ : MethodName)) hown (mvT hZ (hw _ (List.mem_of_getElem? (i := 28) rfl))) (mvT hZ (hw _ (List.mem_of_getElem? (i := 29) rfl))) (mvT hZ (hw _ (List.mem_of_getElem? (i := 22) rfl))) (mvT hZ (hw _ (List.mem_of_getElem? (i := 30) rfl))) (by decide) (backOf (W := 1) (rmCF_3_6 l Z a0 hw [] b6 kb6 [(.int (nar .byte ((c0 >>> ((0 : Int32) &&& 31)).toInt8.toInt32))), (.int (nar .byte ((c0 >>> ((8 : Int32) &&& 31)).toInt8.toInt32))), (.int (nar .byte ((c1 >>> ((0 : Int32) &&& 31)).toInt8.toInt32))), (.int (nar .byte ((c1 >>> ((8 : Int32) &&& 31)).toInt8.toInt32))), (.int (nar .byte ((c2 >>> ((0 : Int32) &&& 31)).toInt8.toInt32))), (.int (nar .byte ((c2 >>> ((8 : Int32) &&& 31)).toInt8.toInt32)))] T6.heap n0 z38 V6) hZ (hw _ (List.mem_of_getElem? (i := 30) rfl)) (hw _ (List.mem_of_getElem? (i := 22) rfl)) (by decide) (by decide)) (g := (mkF m 45 #[rv r0, rv r1, iv 0, iv 3, .val .null, rv b6] [(.int (3 : Int32)), (.ref b6), (.ref r0)])) rfl (by rw [hml]; rfl) (argsL := [(.ref b6), (.int (3 : Int32))]) (rest := [(.ref r0)]) (lenOf pd_11 rfl) rfl (by show 2 * 0 + _ ≤ _; exact Nat.le_of_eq rfl) (hb hby d3_45) (fun _ _ => ⟨rfl, rfl, (by decide : 2 + 0 ≤ _), (by decide : 9 + 0 ≤ _)⟩)
  dsimp only [Pt.U, Pt.locs, Pt.cells, Pt.slots] at X40 l40 y40 z40 st40 hQ40
  subst l40 y40 z40
  obtain ⟨rfl, N40q, eh40⟩ := hQ40
  have N40 := Fr.app N6 N40q
  obtain ⟨T41, h41, X41, e41, W41, st41⟩ := putFN X40 hx hZ hown (hw _ (List.mem_of_getElem? (i := 31) rfl)) Via.refl eh40 fa35 fa33 (Or.inr ⟨(hw _ (List.mem_of_getElem? (i := 32) rfl)), rfl, hnm⟩) (hw _ (List.mem_of_getElem? (i := 7) rfl)) (ty := .byte) (v' := (.int (1 : Int32))) (by decide) rfl (fits_nar_byte (1 : Int32)) (g := (mkF m 48 #[rv r0, rv r1, iv 0, iv 3, .val .null, rv b6] [(.int (1 : Int32)), (.ref r0)])) rfl rfl (hb hby d3_48)
  have fa42 : Exa Z h41 r0 "java/lang/String" := fa33.wr W41
  have fa43 : Fld Z h41 r0 "java/lang/String" "value" "[B" .null := fa34.other W41 (Or.inr (slot_ne (Or.inr (hw _ (List.mem_of_getElem? (i := 34) rfl))) (Or.inr (hw _ (List.mem_of_getElem? (i := 32) rfl))) (by decide) (t := (.array .byte)) (t' := .byte) (by decide) (by decide)))
  have fa44 : Fld Z h41 r0 "java/lang/String" "coder" "B" (.int (1 : Int32)) := fa35.same W41
  have fa45 : Arv Z h41 r1 ks .char (3 : Int32) [(.int c0), (.int c1), (.int c2)] (.int (0 : Int32)) := fa36.other W41 (Ne.symm hne)
  have fa46 : Old Z n0 h41 := fa37.wr W41 g_r0
  have fa47 : Arv Z h41 b6 kb6 .byte (6 : Int32) [(.int (nar .byte ((c0 >>> ((0 : Int32) &&& 31)).toInt8.toInt32))), (.int (nar .byte ((c0 >>> ((8 : Int32) &&& 31)).toInt8.toInt32))), (.int (nar .byte ((c1 >>> ((0 : Int32) &&& 31)).toInt8.toInt32))), (.int (nar .byte ((c1 >>> ((8 : Int32) &&& 31)).toInt8.toInt32))), (.int (nar .byte ((c2 >>> ((0 : Int32) &&& 31)).toInt8.toInt32))), (.int (nar .byte ((c2 >>> ((8 : Int32) &&& 31)).toInt8.toInt32)))] (.int (0 : Int32)) := V6.other W41 (Ne.symm ne_r0_b6)
  have z48 : n0 ≤ h41.size := Nat.le_trans z38 (Nat.le_of_eq W41.size.symm)
  have kp49 : Keep h0 h41 [r0] := kp39.wr W41 (Or.inl (List.mem_of_getElem? (i := 0) rfl))
  have N41 := Fr.snoc X41 N40 g_r0
  obtain ⟨T50, h50, X50, e50, W50, st50⟩ := putF X41 hx hZ hown (host := "") (Or.inl (hw _ (List.mem_of_getElem? (i := 33) rfl))) Via.refl e41 fa43 fa42 (Or.inr ⟨(hw _ (List.mem_of_getElem? (i := 34) rfl)), rfl, hnm⟩) (hw _ (List.mem_of_getElem? (i := 7) rfl)) (ty := (.array .byte)) (by decide) rfl rfl (g := (mkF m 54 #[rv r0, rv r1, iv 0, iv 3, .val .null, rv b6] [(.ref b6), (.ref r0)])) rfl rfl (hb hby d3_54)
  have fa51 : Exa Z h50 r0 "java/lang/String" := fa42.wr W50
  have fa52 : Fld Z h50 r0 "java/lang/String" "value" "[B" (.ref b6) := fa43.same W50
  have fa53 : Fld Z h50 r0 "java/lang/String" "coder" "B" (.int (1 : Int32)) := fa44.other W50 (Or.inr (slot_ne (Or.inr (hw _ (List.mem_of_getElem? (i := 32) rfl))) (Or.inr (hw _ (List.mem_of_getElem? (i := 34) rfl))) (by decide) (t := .byte) (t' := (.array .byte)) (by decide) (by decide)))
  have fa54 : Arv Z h50 r1 ks .char (3 : Int32) [(.int c0), (.int c1), (.int c2)] (.int (0 : Int32)) := fa45.other W50 (Ne.symm hne)
  have fa55 : Old Z n0 h50 := fa46.wr W50 g_r0
  have fa56 : Arv Z h50 b6 kb6 .byte (6 : Int32) [(.int (nar .byte ((c0 >>> ((0 : Int32) &&& 31)).toInt8.toInt32))), (.int (nar .byte ((c0 >>> ((8 : Int32) &&& 31)).toInt8.toInt32))), (.int (nar .byte ((c1 >>> ((0 : Int32) &&& 31)).toInt8.toInt32))), (.int (nar .byte ((c1 >>> ((8 : Int32) &&& 31)).toInt8.toInt32))), (.int (nar .byte ((c2 >>> ((0 : Int32) &&& 31)).toInt8.toInt32))), (.int (nar .byte ((c2 >>> ((8 : Int32) &&& 31)).toInt8.toInt32)))] (.int (0 : Int32)) := fa47.other W50 (Ne.symm ne_r0_b6)
  have z57 : n0 ≤ h50.size := Nat.le_trans z48 (Nat.le_of_eq W50.size.symm)
  have kp58 : Keep h0 h50 [r0] := kp49.wr W50 (Or.inl (List.mem_of_getElem? (i := 0) rfl))
  have N50 := Fr.snoc X50 N41 g_r0
  obtain ⟨fs, hr, hrun, hended, hW, hsame⟩ := X50.leave (v := none) (fun _ => rfl)
  refine ⟨_, _, G4 _ ?_, hrun, hended, _, _, rfl, ?_, ⟨_, rfl⟩, hW, hsame.mono (by decide) (by decide)⟩
  ·skip
   refine XS.ifNo X3.here hx rfl (hb hby d3_30) rfl ((if0 _ _).trans (feq hc30_5).1) ?_
   refine XS.aloadN X3.here hx rfl (hb hby d3_33) rfl rfl ?_
   refine XS.iloadN X3.here hx rfl (hb hby d3_34) rfl ?_
   refine XS.iloadN X3.here hx rfl (hb hby d3_35) rfl ?_
   refine st6 _ ?_
   refine XS.astore X6.here hx rfl (hb hby d3_39) rfl rfl (l' := #[rv r0, rv r1, iv 0, iv 3, .val .null, rv b6]) rfl ?_
   refine XS.aloadN X6.here hx rfl (hb hby d3_41) rfl rfl ?_
   refine XS.aload X6.here hx rfl (hb hby d3_42) rfl rfl ?_
   refine XS.iloadN X6.here hx rfl (hb hby d3_44) rfl ?_
   refine st40 _ ?_
   refine st41 _ ?_
   refine XS.aloadN X41.here hx rfl (hb hby d3_51) rfl rfl ?_
   refine XS.aload X41.here hx rfl (hb hby d3_52) rfl rfl ?_
   refine st50 _ ?_
   exact X50.returnOut hx Bd.returns (hb hby d3_57) hr
  ·show QSE_3 Z r0 r1 c0 c1 c2 ks cst fv h0 n0 _ T50.heap _
   rw [e50]
   exact Or.inr ⟨rfl, N50, kp58, fa51, hq6, fa53, b6, kb6, fa52, szk6, g_b6, fa56⟩
theorem d2_0 : decode jdk_42_method_3_code 0 = .ok (.aload_n 0, 1) := by decide +kernel
theorem d2_1 : decode jdk_42_method_3_code 1 = .ok (.aload_n 1, 1) := by decide +kernel
theorem d2_2 : decode jdk_42_method_3_code 2 = .ok (.iconst 0, 1) := by decide +kernel
theorem d2_3 : decode jdk_42_method_3_code 3 = .ok (.aload_n 1, 1) := by decide +kernel
theorem d2_4 : decode jdk_42_method_3_code 4 = .ok (.arraylength, 1) := by decide +kernel
theorem d2_5 : decode jdk_42_method_3_code 5 = .ok (.aconst_null, 1) := by decide +kernel
theorem d2_6 : decode jdk_42_method_3_code 6 = .ok (.invokespecial 27, 3) := by decide +kernel
theorem pd_12 : parseMethodDescriptor "([CIILjava/lang/Void;)V" = some ⟨[(.array .char), .int, .int, (.object "java/lang/Void")], none⟩ := by decide +kernel
theorem d2_9 : decode jdk_42_method_3_code 9 = .ok (.return_, 1) := by decide +kernel
def QSF_3 (Z : State) (r0 : Addr) (r1 : Addr) (c0 c1 c2 : Int32) (ks : ClassId) (cst : Int32) (fv : Value) (h0 : Heap) (n0 : Nat) (v : Option Value) (h : Heap) (L : List Loc) : Prop := (v = none ∧ Fr n0 L ∧ Keep h0 h [r0] ∧ Exa Z h r0 "java/lang/String" ∧ (¬ ((255 : Int32) < c0) ∧ ¬ ((255 : Int32) < c1) ∧ ¬ ((255 : Int32) < c2)) ∧ Fld Z h r0 "java/lang/String" "coder" "B" (.int (0 : Int32)) ∧ ∃ (t : Addr) (k : ClassId), Fld Z h r0 "java/lang/String" "value" "[B" (.ref t) ∧ h0.size ≤ t ∧ n0 ≤ t ∧ Arv Z h t k .byte (3 : Int32) [(.int (nar .byte (c0.toInt8.toInt32))), (.int (nar .byte (c1.toInt8.toInt32))), (.int (nar .byte (c2.toInt8.toInt32)))] (.int (0 : Int32))) ∨ (v = none ∧ Fr n0 L ∧ Keep h0 h [r0] ∧ Exa Z h r0 "java/lang/String" ∧ ((255 : Int32) < c0 ∨ (255 : Int32) < c1 ∨ (255 : Int32) < c2) ∧ Fld Z h r0 "java/lang/String" "coder" "B" (.int (1 : Int32)) ∧ ∃ (t : Addr) (k : ClassId), Fld Z h r0 "java/lang/String" "value" "[B" (.ref t) ∧ h0.size ≤ t ∧ n0 ≤ t ∧ Arv Z h t k .byte (6 : Int32) [(.int (nar .byte ((c0 >>> ((0 : Int32) &&& 31)).toInt8.toInt32))), (.int (nar .byte ((c0 >>> ((8 : Int32) &&& 31)).toInt8.toInt32))), (.int (nar .byte ((c1 >>> ((0 : Int32) &&& 31)).toInt8.toInt32))), (.int (nar .byte ((c1 >>> ((8 : Int32) &&& 31)).toInt8.toInt32))), (.int (nar .byte ((c2 >>> ((0 : Int32) &&& 31)).toInt8.toInt32))), (.int (nar .byte ((c2 >>> ((8 : Int32) &&& 31)).toInt8.toInt32)))] (.int (0 : Int32)))
theorem ef_rmSF_3 (m : MethodId) (x0 : Addr) (x1 : Addr) : entryFrame m #[(.ref x0), (.ref x1)] 2 = mkF m 0 #[.val (.ref x0), .val (.ref x1)] [] := by first | (simp [entryFrame, mkF, argsToLocals, Value.category]; done) | rfl
set_option maxRecDepth 65536 in
set_option maxHeartbeats 40000000 in
theorem rmSF_3 (l : Launch) (Z : State) (a0 : Array Value) (hw : ∀ d ∈ tables_1, d.before a0 Z = true) (ws : List Jvm.Cond) (r0 : Addr) (r1 : Addr) (c0 c1 c2 : Int32) (ks : ClassId) (cst : Int32) (fv : Value) (h0 : Heap) (n0 : Nat) (Z0 : n0 ≤ h0.size) (E0 : Exa Z h0 r0 "java/lang/String") (Fv : Fld Z h0 r0 "java/lang/String" "value" "[B" .null) (Fc : Fld Z h0 r0 "java/lang/String" "coder" "B" (.int (0 : Int32))) (Vs : Arv Z h0 r1 ks .char (3 : Int32) [(.int c0), (.int c1), (.int c2)] (.int (0 : Int32))) (O0 : Old Z n0 h0) (g_r0 : n0 ≤ r0) (hne : r0 ≠ r1) (hb0 : 0 ≤ c0.toInt ∧ c0.toInt ≤ 65535) (hb1 : 0 ≤ c1.toInt ∧ c1.toInt ≤ 65535) (hb2 : 0 ≤ c2.toInt ∧ c2.toInt ≤ 65535) (SS : Sts Z cst fv) :
  MetFree l (⟨"java/lang/String", "<init>", "([C)V"⟩ : MethodName) (head1 (Jvm.Cond.code (⟨"java/lang/String", "<init>", "([C)V"⟩ : MethodName) jdk_42_method_3_code 2 none :: ws) ({ frames := 5, cells := 2, slots := 9, locals := 74 } : Room)) (fun a U => a = #[(.ref r0), (.ref r1)] ∧ Z.Warmed39 U.vm ∧ U.heap = h0) (fun _ _ _ _ _ => True) (fun _ U o U' => ∃ v L, o = .returned v ∧ QSF_3 Z r0 r1 c0 c1 c2 ks cst fv h0 n0 v U'.heap L ∧ FrameEnd U o U' L ({ frames := 5, cells := 2, slots := 9, locals := 74 } : Room).cells ({ frames := 5, cells := 2, slots := 9, locals := 74 } : Room).slots) := by
 refine MetFree.of_bodySF (plainFor_of_name pnc_java_lang_String) hisR ?_
 intro p e s m args below meth c s₁ Bd hml0 hP hK
 obtain ⟨rfl, hZ, hh⟩ := hP
 have hx := Bd.exec
 have hby := Bd.bytes
 have hml : c.maxLocals = 2 := hml0
 have hown : s.vm.findClass "java/lang/String" = some m.cls := findClass_of_methodNamed Bd.named
 have hnm := (name_of_methodNamed Bd.named Bd.method).1
 have X0 : Stand p l e ({ frames := 5, cells := 2, slots := 9, locals := 74 } : Room) s m #[(.ref r0), (.ref r1)] below meth c s₁ [] 0 0 := Stand.of_body Bd
 have e0 : s₁.heap = h0 := by rw [← hh, Bd.state]; rfl
 have N0 := Fr.nil n0
 have kp0 : Keep h0 h0 [r0] := Keep.refl _ _
 have G0 : ∀ t, Steps p.tables e below (s₁.setTop (mkF m 0 #[rv r0, rv r1] [])) t → Steps p.tables e below (s₁.setTop (entryFrame m #[(.ref r0), (.ref r1)] 2)) t := fun t k => castTop (ef_rmSF_3 m r0 r1) k
 obtain ⟨cl1, Ar1, q1, S1, M1, H1, G1⟩ := id Vs
 obtain ⟨_, _, ⟨T2, L2, k2, n2⟩, -, X2, ⟨Lc2, hQ2, l2, y2, z2⟩, st2⟩ := X0.specialBack hx (y := (⟨"java/lang/String", "<init>", "([CIILjava/lang/Void;)V"⟩ : MethodName)) rfl hown (mvT hZ (hw _ (List.mem_of_getElem? (i := 12) rfl))) (mvT hZ (hw _ (List.mem_of_getElem? (i := 13) rfl))) (mvT hZ (hw _ (List.mem_of_getElem? (i := 15) rfl))) (by decide) (backOf (W := 0) (rmSE_3 l Z a0 hw [] r0 r1 c0 c1 c2 ks cst fv h0 n0 Z0 E0 Fv Fc Vs O0 g_r0 hne hb0 hb1 hb2 SS) hZ (hw _ (List.mem_of_getElem? (i := 15) rfl)) (hw _ (List.mem_of_getElem? (i := 8) rfl)) (by decide) (by decide)) (g := (mkF m 6 #[rv r0, rv r1] [.null, (.int (3 : Int32)), (.int (0 : Int32)), (.ref r1), (.ref r0)])) rfl (by rw [hml]; rfl) (Steps.refl _) (a := r0) (argsL := [(.ref r1), (.int (0 : Int32)), (.int (3 : Int32)), .null]) (rest := []) (lenOf pd_12 rfl) rfl (by show 2 * 0 + _ ≤ _; exact Nat.le_of_eq rfl) (hb hby d2_6) (fun _ _ => ⟨rfl, e0, (by decide : 0 + 2 ≤ _), (by decide : 0 + 9 ≤ _)⟩)
 dsimp only [Pt.U, Pt.locs, Pt.cells, Pt.slots] at X2 l2 y2 z2 st2 hQ2
 subst l2 y2 z2
 rcases hQ2 with ⟨rfl, N2q, K2, A2, hq2, Fc2, ta2, kb2, Fv2, sz2, g_ta2, V2⟩ | ⟨rfl, N2q, K2, A2, hq2, Fc2, ta2, kb2, Fv2, sz2, g_ta2, V2⟩
 ·skip
  have N2 := Fr.app N0 N2q
  have szk2 : h0.size ≤ ta2 := Nat.le_trans kp0.1 sz2
  have ne_r0_ta2 : r0 ≠ ta2 := Nat.ne_of_lt (Nat.lt_of_lt_of_le E0.lt sz2)
  have ne_r1_ta2 : r1 ≠ ta2 := Nat.ne_of_lt (Nat.lt_of_lt_of_le Vs.lt sz2)
  have fa3 : Exa Z T2.heap r0 "java/lang/String" := E0.keep K2
  have fa4 : Arv Z T2.heap r1 ks .char (3 : Int32) [(.int c0), (.int c1), (.int c2)] (.int (0 : Int32)) := Vs.keep K2 (ninS (Ne.symm hne) nin0)
  have fa5 : Old Z n0 T2.heap := O0.keep K2 (allS g_r0 all0)
  have z6 : n0 ≤ T2.heap.size := Nat.le_trans Z0 K2.1
  have kp7 : Keep h0 T2.heap [r0] := kp0.trans K2 (allS (Or.inl (List.mem_of_getElem? (i := 0) rfl)) all0)
  obtain ⟨fs, hr, hrun, hended, hW, hsame⟩ := X2.leave (v := none) (fun _ => rfl)
  refine ⟨_, _, G0 _ ?_, hrun, hended, _, _, rfl, ?_, ⟨_, rfl⟩, hW, hsame.mono (by decide) (by decide)⟩
  ·skip
   refine XS.aloadN X0.here hx rfl (hb hby d2_0) rfl rfl ?_
   refine XS.aloadN X0.here hx rfl (hb hby d2_1) rfl rfl ?_
   refine XS.iconst X0.here hx rfl (hb hby d2_2) ?_
   refine XS.aloadN X0.here hx rfl (hb hby d2_3) rfl rfl ?_
   refine X0.arraylength hx (by rw [e0]; exact Ar1.1) (State.isArrayOf_alike hZ.alike Ar1.2.1) (g := (mkF m 4 #[rv r0, rv r1] [(.ref r1), (.int (0 : Int32)), (.ref r1), (.ref r0)])) rfl rfl (hb hby d2_4) _ ?_
   rw [len_of S1 M1]
   refine XS.aconstNull X0.here hx rfl (hb hby d2_5) ?_
   refine st2.trans ?_
   exact X2.returnOut hx Bd.returns (hb hby d2_9) hr
  ·show QSF_3 Z r0 r1 c0 c1 c2 ks cst fv h0 n0 _ T2.heap _
   exact Or.inl ⟨rfl, N2, kp7, A2, hq2, Fc2, ta2, kb2, Fv2, szk2, g_ta2, V2⟩
 ·skip
  have N2 := Fr.app N0 N2q
  have szk2 : h0.size ≤ ta2 := Nat.le_trans kp0.1 sz2
  have ne_r0_ta2 : r0 ≠ ta2 := Nat.ne_of_lt (Nat.lt_of_lt_of_le E0.lt sz2)
  have ne_r1_ta2 : r1 ≠ ta2 := Nat.ne_of_lt (Nat.lt_of_lt_of_le Vs.lt sz2)
  have fa8 : Exa Z T2.heap r0 "java/lang/String" := E0.keep K2
  have fa9 : Arv Z T2.heap r1 ks .char (3 : Int32) [(.int c0), (.int c1), (.int c2)] (.int (0 : Int32)) := Vs.keep K2 (ninS (Ne.symm hne) nin0)
  have fa10 : Old Z n0 T2.heap := O0.keep K2 (allS g_r0 all0)
  have z11 : n0 ≤ T2.heap.size := Nat.le_trans Z0 K2.1
  have kp12 : Keep h0 T2.heap [r0] := kp0.trans K2 (allS (Or.inl (List.mem_of_getElem? (i := 0) rfl)) all0)
  obtain ⟨fs, hr, hrun, hended, hW, hsame⟩ := X2.leave (v := none) (fun _ => rfl)
  refine ⟨_, _, G0 _ ?_, hrun, hended, _, _, rfl, ?_, ⟨_, rfl⟩, hW, hsame.mono (by decide) (by decide)⟩
  ·skip
   refine XS.aloadN X0.here hx rfl (hb hby d2_0) rfl rfl ?_
   refine XS.aloadN X0.here hx rfl (hb hby d2_1) rfl rfl ?_
   refine XS.iconst X0.here hx rfl (hb hby d2_2) ?_
   refine XS.aloadN X0.here hx rfl (hb hby d2_3) rfl rfl ?_
   refine X0.arraylength hx (by rw [e0]; exact Ar1.1) (State.isArrayOf_alike hZ.alike Ar1.2.1) (g := (mkF m 4 #[rv r0, rv r1] [(.ref r1), (.int (0 : Int32)), (.ref r1), (.ref r0)])) rfl rfl (hb hby d2_4) _ ?_
   rw [len_of S1 M1]
   refine XS.aconstNull X0.here hx rfl (hb hby d2_5) ?_
   refine st2.trans ?_
   exact X2.returnOut hx Bd.returns (hb hby d2_9) hr
  ·show QSF_3 Z r0 r1 c0 c1 c2 ks cst fv h0 n0 _ T2.heap _
   exact Or.inr ⟨rfl, N2, kp12, A2, hq2, Fc2, ta2, kb2, Fv2, szk2, g_ta2, V2⟩
theorem d1_0 : decode method_2_code 0 = .ok (.iload_n 0, 1) := by decide +kernel
theorem d1_1 : decode method_2_code 1 = .ok (.ldc 7, 2) := by decide +kernel
theorem d1_3 : decode method_2_code 3 = .ok (.iand, 1) := by decide +kernel
theorem d1_4 : decode method_2_code 4 = .ok (.ifCond .eq 9, 3) := by decide +kernel
theorem d1_13 : decode method_2_code 13 = .ok (.iload_n 0, 1) := by decide +kernel
theorem d1_14 : decode method_2_code 14 = .ok (.bipush 127, 2) := by decide +kernel
theorem d1_16 : decode method_2_code 16 = .ok (.iand, 1) := by decide +kernel
theorem d1_17 : decode method_2_code 17 = .ok (.i2c, 1) := by decide +kernel
theorem d1_18 : decode method_2_code 18 = .ok (.ireturn, 1) := by decide +kernel
theorem d1_7 : decode method_2_code 7 = .ok (.iload_n 0, 1) := by decide +kernel
theorem d1_8 : decode method_2_code 8 = .ok (.ldc 8, 2) := by decide +kernel
theorem d1_10 : decode method_2_code 10 = .ok (.iand, 1) := by decide +kernel
theorem d1_11 : decode method_2_code 11 = .ok (.i2c, 1) := by decide +kernel
theorem d1_12 : decode method_2_code 12 = .ok (.ireturn, 1) := by decide +kernel
def fdraw (p0 : Int32) : Int32 := if (p0 &&& (65536 : Int32)) = (0 : Int32) then (nar .char ((p0 &&& (127 : Int32)).toUInt32.toUInt16.toUInt32.toInt32)) else (nar .char ((p0 &&& (65535 : Int32)).toUInt32.toUInt16.toUInt32.toInt32))
def Q1 (Z : State) (p0 : Int32) (h0 : Heap) (n0 : Nat) (v : Option Value) (h : Heap) (L : List Loc) : Prop := v = some (.int (fdraw p0)) ∧ Fr n0 L ∧ h = h0
theorem ef_rm1 (m : MethodId) (x0 : Int32) : entryFrame m #[(.int x0)] 1 = mkF m 0 #[.val (.int x0)] [] := by first | (simp [entryFrame, mkF, argsToLocals, Value.category]; done) | rfl
theorem pnc_com_example_wary_bearer_warybearer_http_Http1ReaderIsTokenPinLaw : plainName "com/example/wary_bearer/warybearer/http/Http1ReaderIsTokenPinLaw" = true := by first | (simp [plainName, overriddenIn]; done) | decide +kernel
set_option maxRecDepth 65536 in
set_option maxHeartbeats 40000000 in
theorem rm1 (l : Launch) (Z : State) (a0 : Array Value) (hw : ∀ d ∈ tables_1, d.before a0 Z = true) (ws : List Jvm.Cond) (p0 : Int32) (h0 : Heap) (n0 : Nat) (Z0 : n0 ≤ h0.size) :
  MetFree l (⟨"com/example/wary_bearer/warybearer/http/Http1ReaderIsTokenPinLaw", "draw", "(I)C"⟩ : MethodName) (head1 (Jvm.Cond.code (⟨"com/example/wary_bearer/warybearer/http/Http1ReaderIsTokenPinLaw", "draw", "(I)C"⟩ : MethodName) method_2_code 1 (some .char) :: ws) ({ frames := 0, cells := 0, slots := 0, locals := 0 } : Room)) (fun a U => a = #[(.int p0)] ∧ Z.Warmed39 U.vm ∧ U.heap = h0) (fun _ _ _ _ _ => True) (fun _ U o U' => ∃ v L, o = .returned v ∧ Q1 Z p0 h0 n0 v U'.heap L ∧ FrameEnd U o U' L ({ frames := 0, cells := 0, slots := 0, locals := 0 } : Room).cells ({ frames := 0, cells := 0, slots := 0, locals := 0 } : Room).slots) := by
 refine MetFree.of_bodySF (plainFor_of_name pnc_com_example_wary_bearer_warybearer_http_Http1ReaderIsTokenPinLaw) hisR ?_
 intro p e s m args below meth c s₁ Bd hml0 hP hK
 obtain ⟨rfl, hZ, hh⟩ := hP
 have hx := Bd.exec
 have hby := Bd.bytes
 have hml : c.maxLocals = 1 := hml0
 have hown : s.vm.findClass "com/example/wary_bearer/warybearer/http/Http1ReaderIsTokenPinLaw" = some m.cls := findClass_of_methodNamed Bd.named
 have hnm := (name_of_methodNamed Bd.named Bd.method).1
 have X0 : Stand p l e ({ frames := 0, cells := 0, slots := 0, locals := 0 } : Room) s m #[(.int p0)] below meth c s₁ [] 0 0 := Stand.of_body Bd
 have e0 : s₁.heap = h0 := by rw [← hh, Bd.state]; rfl
 have N0 := Fr.nil n0
 have kp0 : Keep h0 h0 [] := Keep.refl _ _
 have G0 : ∀ t, Steps p.tables e below (s₁.setTop (mkF m 0 #[iv p0] [])) t → Steps p.tables e below (s₁.setTop (entryFrame m #[(.int p0)] 1)) t := fun t k => castTop (ef_rm1 m p0) k
 have G1 : ∀ t, Steps p.tables e below (s₁.setTop (mkF m 4 #[iv p0] [(.int (p0 &&& (65536 : Int32)))])) t → Steps p.tables e below (s₁.setTop (entryFrame m #[(.int p0)] 1)) t := by
  intro t kt
  refine G0 _ ?_
  refine XS.iloadN X0.here hx rfl (hb hby d1_0) rfl ?_
  refine X0.ldcInt hx hown (mvT hZ (hw _ (List.mem_of_getElem? (i := 4) rfl))) (g := (mkF m 1 #[iv p0] [(.int p0)])) rfl (hb hby d1_1) _ ?_
  refine XS.iand X0.here hx rfl (hb hby d1_3) rfl ?_
  exact kt
 by_cases hc4_2 : (p0 &&& (65536 : Int32)) = (0 : Int32)
 ·skip
  obtain ⟨fs, hr, hrun, hended, hW, hsame⟩ := X0.leave (v := some (.int (nar .char ((p0 &&& (127 : Int32)).toUInt32.toUInt16.toUInt32.toInt32)))) (fun h => by rw [Bd.returns] at h; cases h)
  refine ⟨_, _, G1 _ ?_, hrun, hended, _, _, rfl, ?_, ⟨_, rfl⟩, hW, hsame.mono (by decide) (by decide)⟩
  ·skip
   refine XS.ifYes X0.here hx rfl (pc0 := 4) (pc' := 13) rfl (hb hby d1_4) rfl ((if0 _ _).trans (teq hc4_2).1) (by decide) (by decide) ?_
   refine XS.iloadN X0.here hx rfl (hb hby d1_13) rfl ?_
   refine XS.bipush X0.here hx rfl (hb hby d1_14) ?_
   refine XS.iand X0.here hx rfl (hb hby d1_16) rfl ?_
   refine XS.i2c X0.here hx rfl (hb hby d1_17) rfl ?_
   exact retN X0 hx (t := .char) Bd.returns (by simp) (hb hby d1_18) hr
  ·show Q1 Z p0 h0 n0 _ s₁.heap _
   rw [e0]
   exact ⟨by rw [fdraw, if_pos hc4_2], N0, rfl⟩
 ·skip
  obtain ⟨fs, hr, hrun, hended, hW, hsame⟩ := X0.leave (v := some (.int (nar .char ((p0 &&& (65535 : Int32)).toUInt32.toUInt16.toUInt32.toInt32)))) (fun h => by rw [Bd.returns] at h; cases h)
  refine ⟨_, _, G1 _ ?_, hrun, hended, _, _, rfl, ?_, ⟨_, rfl⟩, hW, hsame.mono (by decide) (by decide)⟩
  ·skip
   refine XS.ifNo X0.here hx rfl (hb hby d1_4) rfl ((if0 _ _).trans (feq hc4_2).1) ?_
   refine XS.iloadN X0.here hx rfl (hb hby d1_7) rfl ?_
   refine X0.ldcInt hx hown (mvT hZ (hw _ (List.mem_of_getElem? (i := 39) rfl))) (g := (mkF m 8 #[iv p0] [(.int p0)])) rfl (hb hby d1_8) _ ?_
   refine XS.iand X0.here hx rfl (hb hby d1_10) rfl ?_
   refine XS.i2c X0.here hx rfl (hb hby d1_11) rfl ?_
   exact retN X0 hx (t := .char) Bd.returns (by simp) (hb hby d1_12) hr
  ·show Q1 Z p0 h0 n0 _ s₁.heap _
   rw [e0]
   exact ⟨by rw [fdraw, if_neg hc4_2], N0, rfl⟩
theorem d14_0 : decode method_3_code 0 = .ok (.iload_n 0, 1) := by decide +kernel
theorem d14_1 : decode method_3_code 1 = .ok (.bipush 48, 2) := by decide +kernel
theorem d14_3 : decode method_3_code 3 = .ok (.if_icmp .lt 11, 3) := by decide +kernel
theorem d14_14 : decode method_3_code 14 = .ok (.iload_n 0, 1) := by decide +kernel
theorem d14_15 : decode method_3_code 15 = .ok (.bipush 65, 2) := by decide +kernel
theorem d14_17 : decode method_3_code 17 = .ok (.if_icmp .lt 11, 3) := by decide +kernel
theorem d14_28 : decode method_3_code 28 = .ok (.iload_n 0, 1) := by decide +kernel
theorem d14_29 : decode method_3_code 29 = .ok (.bipush 97, 2) := by decide +kernel
theorem d14_31 : decode method_3_code 31 = .ok (.if_icmp .lt 11, 3) := by decide +kernel
theorem d14_42 : decode method_3_code 42 = .ok (.iload_n 0, 1) := by decide +kernel
theorem d14_43 : decode method_3_code 43 = .ok (.bipush 33, 2) := by decide +kernel
theorem d14_45 : decode method_3_code 45 = .ok (.if_icmp .eq 87, 3) := by decide +kernel
theorem d14_132 : decode method_3_code 132 = .ok (.iconst 1, 1) := by decide +kernel
theorem d14_133 : decode method_3_code 133 = .ok (.goto 4, 3) := by decide +kernel
theorem d14_137 : decode method_3_code 137 = .ok (.ireturn, 1) := by decide +kernel
theorem d14_48 : decode method_3_code 48 = .ok (.iload_n 0, 1) := by decide +kernel
theorem d14_49 : decode method_3_code 49 = .ok (.bipush 35, 2) := by decide +kernel
theorem d14_51 : decode method_3_code 51 = .ok (.if_icmp .eq 81, 3) := by decide +kernel
theorem d14_54 : decode method_3_code 54 = .ok (.iload_n 0, 1) := by decide +kernel
theorem d14_55 : decode method_3_code 55 = .ok (.bipush 36, 2) := by decide +kernel
theorem d14_57 : decode method_3_code 57 = .ok (.if_icmp .eq 75, 3) := by decide +kernel
theorem d14_60 : decode method_3_code 60 = .ok (.iload_n 0, 1) := by decide +kernel
theorem d14_61 : decode method_3_code 61 = .ok (.bipush 37, 2) := by decide +kernel
theorem d14_63 : decode method_3_code 63 = .ok (.if_icmp .eq 69, 3) := by decide +kernel
theorem d14_66 : decode method_3_code 66 = .ok (.iload_n 0, 1) := by decide +kernel
theorem d14_67 : decode method_3_code 67 = .ok (.bipush 38, 2) := by decide +kernel
theorem d14_69 : decode method_3_code 69 = .ok (.if_icmp .eq 63, 3) := by decide +kernel
theorem d14_72 : decode method_3_code 72 = .ok (.iload_n 0, 1) := by decide +kernel
theorem d14_73 : decode method_3_code 73 = .ok (.bipush 39, 2) := by decide +kernel
theorem d14_75 : decode method_3_code 75 = .ok (.if_icmp .eq 57, 3) := by decide +kernel
theorem d14_78 : decode method_3_code 78 = .ok (.iload_n 0, 1) := by decide +kernel
theorem d14_79 : decode method_3_code 79 = .ok (.bipush 42, 2) := by decide +kernel
theorem d14_81 : decode method_3_code 81 = .ok (.if_icmp .eq 51, 3) := by decide +kernel
theorem d14_84 : decode method_3_code 84 = .ok (.iload_n 0, 1) := by decide +kernel
theorem d14_85 : decode method_3_code 85 = .ok (.bipush 43, 2) := by decide +kernel
theorem d14_87 : decode method_3_code 87 = .ok (.if_icmp .eq 45, 3) := by decide +kernel
theorem d14_90 : decode method_3_code 90 = .ok (.iload_n 0, 1) := by decide +kernel
theorem d14_91 : decode method_3_code 91 = .ok (.bipush 45, 2) := by decide +kernel
theorem d14_93 : decode method_3_code 93 = .ok (.if_icmp .eq 39, 3) := by decide +kernel
theorem d14_96 : decode method_3_code 96 = .ok (.iload_n 0, 1) := by decide +kernel
theorem d14_97 : decode method_3_code 97 = .ok (.bipush 46, 2) := by decide +kernel
theorem d14_99 : decode method_3_code 99 = .ok (.if_icmp .eq 33, 3) := by decide +kernel
theorem d14_102 : decode method_3_code 102 = .ok (.iload_n 0, 1) := by decide +kernel
theorem d14_103 : decode method_3_code 103 = .ok (.bipush 94, 2) := by decide +kernel
theorem d14_105 : decode method_3_code 105 = .ok (.if_icmp .eq 27, 3) := by decide +kernel
theorem d14_108 : decode method_3_code 108 = .ok (.iload_n 0, 1) := by decide +kernel
theorem d14_109 : decode method_3_code 109 = .ok (.bipush 95, 2) := by decide +kernel
theorem d14_111 : decode method_3_code 111 = .ok (.if_icmp .eq 21, 3) := by decide +kernel
theorem d14_114 : decode method_3_code 114 = .ok (.iload_n 0, 1) := by decide +kernel
theorem d14_115 : decode method_3_code 115 = .ok (.bipush 96, 2) := by decide +kernel
theorem d14_117 : decode method_3_code 117 = .ok (.if_icmp .eq 15, 3) := by decide +kernel
theorem d14_120 : decode method_3_code 120 = .ok (.iload_n 0, 1) := by decide +kernel
theorem d14_121 : decode method_3_code 121 = .ok (.bipush 124, 2) := by decide +kernel
theorem d14_123 : decode method_3_code 123 = .ok (.if_icmp .eq 9, 3) := by decide +kernel
theorem d14_126 : decode method_3_code 126 = .ok (.iload_n 0, 1) := by decide +kernel
theorem d14_127 : decode method_3_code 127 = .ok (.bipush 126, 2) := by decide +kernel
theorem d14_129 : decode method_3_code 129 = .ok (.if_icmp .ne 7, 3) := by decide +kernel
theorem d14_136 : decode method_3_code 136 = .ok (.iconst 0, 1) := by decide +kernel
theorem d14_6 : decode method_3_code 6 = .ok (.iload_n 0, 1) := by decide +kernel
theorem d14_7 : decode method_3_code 7 = .ok (.bipush 57, 2) := by decide +kernel
theorem d14_9 : decode method_3_code 9 = .ok (.if_icmp .gt 5, 3) := by decide +kernel
theorem d14_20 : decode method_3_code 20 = .ok (.iload_n 0, 1) := by decide +kernel
theorem d14_21 : decode method_3_code 21 = .ok (.bipush 90, 2) := by decide +kernel
theorem d14_23 : decode method_3_code 23 = .ok (.if_icmp .gt 5, 3) := by decide +kernel
theorem d14_34 : decode method_3_code 34 = .ok (.iload_n 0, 1) := by decide +kernel
theorem d14_35 : decode method_3_code 35 = .ok (.bipush 122, 2) := by decide +kernel
theorem d14_37 : decode method_3_code 37 = .ok (.if_icmp .gt 5, 3) := by decide +kernel
theorem d14_40 : decode method_3_code 40 = .ok (.iconst 1, 1) := by decide +kernel
theorem d14_41 : decode method_3_code 41 = .ok (.ireturn, 1) := by decide +kernel
theorem d14_26 : decode method_3_code 26 = .ok (.iconst 1, 1) := by decide +kernel
theorem d14_27 : decode method_3_code 27 = .ok (.ireturn, 1) := by decide +kernel
theorem d14_12 : decode method_3_code 12 = .ok (.iconst 1, 1) := by decide +kernel
theorem d14_13 : decode method_3_code 13 = .ok (.ireturn, 1) := by decide +kernel
def fisT (p0 : Int32) : Int32 := if p0 < (48 : Int32) then (if p0 = (33 : Int32) then ((1 : Int32)) else (if p0 = (35 : Int32) then ((1 : Int32)) else (if p0 = (36 : Int32) then ((1 : Int32)) else (if p0 = (37 : Int32) then ((1 : Int32)) else (if p0 = (38 : Int32) then ((1 : Int32)) else (if p0 = (39 : Int32) then ((1 : Int32)) else (if p0 = (42 : Int32) then ((1 : Int32)) else (if p0 = (43 : Int32) then ((1 : Int32)) else (if p0 = (45 : Int32) then ((1 : Int32)) else (if p0 = (46 : Int32) then ((1 : Int32)) else ((0 : Int32)))))))))))) else (if (57 : Int32) < p0 then (if p0 < (65 : Int32) then ((0 : Int32)) else (if (90 : Int32) < p0 then (if p0 < (97 : Int32) then (if p0 = (94 : Int32) then ((1 : Int32)) else (if p0 = (95 : Int32) then ((1 : Int32)) else (if p0 = (96 : Int32) then ((1 : Int32)) else ((0 : Int32))))) else (if (122 : Int32) < p0 then (if p0 = (124 : Int32) then ((1 : Int32)) else (if p0 = (126 : Int32) then ((1 : Int32)) else ((0 : Int32)))) else ((1 : Int32)))) else ((1 : Int32)))) else ((1 : Int32)))
def Q14 (Z : State) (p0 : Int32) (h0 : Heap) (n0 : Nat) (v : Option Value) (h : Heap) (L : List Loc) : Prop := v = some (.int (fisT p0)) ∧ Fr n0 L ∧ h = h0
theorem ef_rm14 (m : MethodId) (x0 : Int32) : entryFrame m #[(.int x0)] 1 = mkF m 0 #[.val (.int x0)] [] := by first | (simp [entryFrame, mkF, argsToLocals, Value.category]; done) | rfl
set_option maxRecDepth 65536 in
set_option maxHeartbeats 40000000 in
theorem rm14 (l : Launch) (Z : State) (a0 : Array Value) (hw : ∀ d ∈ tables_1, d.before a0 Z = true) (ws : List Jvm.Cond) (p0 : Int32) (h0 : Heap) (n0 : Nat) (Z0 : n0 ≤ h0.size) :
  MetFree l (⟨"com/example/wary_bearer/warybearer/http/Http1ReaderIsTokenPinLaw", "isT", "(C)Z"⟩ : MethodName) (head1 (Jvm.Cond.code (⟨"com/example/wary_bearer/warybearer/http/Http1ReaderIsTokenPinLaw", "isT", "(C)Z"⟩ : MethodName) method_3_code 1 (some .boolean) :: ws) ({ frames := 0, cells := 0, slots := 0, locals := 0 } : Room)) (fun a U => a = #[(.int p0)] ∧ Z.Warmed39 U.vm ∧ U.heap = h0) (fun _ _ _ _ _ => True) (fun _ U o U' => ∃ v L, o = .returned v ∧ Q14 Z p0 h0 n0 v U'.heap L ∧ FrameEnd U o U' L ({ frames := 0, cells := 0, slots := 0, locals := 0 } : Room).cells ({ frames := 0, cells := 0, slots := 0, locals := 0 } : Room).slots) := by
 refine MetFree.of_bodySF (plainFor_of_name pnc_com_example_wary_bearer_warybearer_http_Http1ReaderIsTokenPinLaw) hisR ?_
 intro p e s m args below meth c s₁ Bd hml0 hP hK
 obtain ⟨rfl, hZ, hh⟩ := hP
 have hx := Bd.exec
 have hby := Bd.bytes
 have hml : c.maxLocals = 1 := hml0
 have hown : s.vm.findClass "com/example/wary_bearer/warybearer/http/Http1ReaderIsTokenPinLaw" = some m.cls := findClass_of_methodNamed Bd.named
 have hnm := (name_of_methodNamed Bd.named Bd.method).1
 have X0 : Stand p l e ({ frames := 0, cells := 0, slots := 0, locals := 0 } : Room) s m #[(.int p0)] below meth c s₁ [] 0 0 := Stand.of_body Bd
 have e0 : s₁.heap = h0 := by rw [← hh, Bd.state]; rfl
 have N0 := Fr.nil n0
 have kp0 : Keep h0 h0 [] := Keep.refl _ _
 have G0 : ∀ t, Steps p.tables e below (s₁.setTop (mkF m 0 #[iv p0] [])) t → Steps p.tables e below (s₁.setTop (entryFrame m #[(.int p0)] 1)) t := fun t k => castTop (ef_rm14 m p0) k
 have G1 : ∀ t, Steps p.tables e below (s₁.setTop (mkF m 3 #[iv p0] [(.int (48 : Int32)), (.int p0)])) t → Steps p.tables e below (s₁.setTop (entryFrame m #[(.int p0)] 1)) t := by
  intro t kt
  refine G0 _ ?_
  refine XS.iloadN X0.here hx rfl (hb hby d14_0) rfl ?_
  refine XS.bipush X0.here hx rfl (hb hby d14_1) ?_
  exact kt
 by_cases hc3_2 : p0 < (48 : Int32)
 ·skip
  have G3 : ∀ t, Steps p.tables e below (s₁.setTop (mkF m 17 #[iv p0] [(.int (65 : Int32)), (.int p0)])) t → Steps p.tables e below (s₁.setTop (entryFrame m #[(.int p0)] 1)) t := by
   intro t kt
   refine G1 _ ?_
   refine XS.icmpYes X0.here hx rfl (pc0 := 3) (pc' := 14) rfl (hb hby d14_3) rfl (tlt hc3_2).1 (by decide) (by decide) ?_
   refine XS.iloadN X0.here hx rfl (hb hby d14_14) rfl ?_
   refine XS.bipush X0.here hx rfl (hb hby d14_15) ?_
   exact kt
  have G4 : ∀ t, Steps p.tables e below (s₁.setTop (mkF m 31 #[iv p0] [(.int (97 : Int32)), (.int p0)])) t → Steps p.tables e below (s₁.setTop (entryFrame m #[(.int p0)] 1)) t := by
   intro t kt
   refine G3 _ ?_
   refine XS.icmpYes X0.here hx rfl (pc0 := 17) (pc' := 28) rfl (hb hby d14_17) rfl (tlt (own_i1 hc3_2 (by decide))).1 (by decide) (by decide) ?_
   refine XS.iloadN X0.here hx rfl (hb hby d14_28) rfl ?_
   refine XS.bipush X0.here hx rfl (hb hby d14_29) ?_
   exact kt
  have G5 : ∀ t, Steps p.tables e below (s₁.setTop (mkF m 45 #[iv p0] [(.int (33 : Int32)), (.int p0)])) t → Steps p.tables e below (s₁.setTop (entryFrame m #[(.int p0)] 1)) t := by
   intro t kt
   refine G4 _ ?_
   refine XS.icmpYes X0.here hx rfl (pc0 := 31) (pc' := 42) rfl (hb hby d14_31) rfl (tlt (own_i1 hc3_2 (by decide))).1 (by decide) (by decide) ?_
   refine XS.iloadN X0.here hx rfl (hb hby d14_42) rfl ?_
   refine XS.bipush X0.here hx rfl (hb hby d14_43) ?_
   exact kt
  by_cases hc45_6 : p0 = (33 : Int32)
  ·skip
   obtain ⟨fs, hr, hrun, hended, hW, hsame⟩ := X0.leave (v := some (.int (1 : Int32))) (fun h => by rw [Bd.returns] at h; cases h)
   refine ⟨_, _, G5 _ ?_, hrun, hended, _, _, rfl, ?_, ⟨_, rfl⟩, hW, hsame.mono (by decide) (by decide)⟩
   ·skip
    refine XS.icmpYes X0.here hx rfl (pc0 := 45) (pc' := 132) rfl (hb hby d14_45) rfl (teq hc45_6).1 (by decide) (by decide) ?_
    refine XS.iconst X0.here hx rfl (hb hby d14_132) ?_
    refine XS.goto X0.here hx rfl (pc0 := 133) (pc' := 137) rfl (hb hby d14_133) (by decide) (by decide) ?_
    exact retN X0 hx (t := .boolean) Bd.returns (by simp) (hb hby d14_137) hr
   ·show Q14 Z p0 h0 n0 _ s₁.heap _
    rw [e0]
    exact ⟨by rw [fisT, if_pos hc3_2, if_pos hc45_6], N0, rfl⟩
  ·skip
   have G7 : ∀ t, Steps p.tables e below (s₁.setTop (mkF m 51 #[iv p0] [(.int (35 : Int32)), (.int p0)])) t → Steps p.tables e below (s₁.setTop (entryFrame m #[(.int p0)] 1)) t := by
    intro t kt
    refine G5 _ ?_
    refine XS.icmpNo X0.here hx rfl (hb hby d14_45) rfl (feq hc45_6).1 ?_
    refine XS.iloadN X0.here hx rfl (hb hby d14_48) rfl ?_
    refine XS.bipush X0.here hx rfl (hb hby d14_49) ?_
    exact kt
   by_cases hc51_8 : p0 = (35 : Int32)
   ·skip
    obtain ⟨fs, hr, hrun, hended, hW, hsame⟩ := X0.leave (v := some (.int (1 : Int32))) (fun h => by rw [Bd.returns] at h; cases h)
    refine ⟨_, _, G7 _ ?_, hrun, hended, _, _, rfl, ?_, ⟨_, rfl⟩, hW, hsame.mono (by decide) (by decide)⟩
    ·skip
     refine XS.icmpYes X0.here hx rfl (pc0 := 51) (pc' := 132) rfl (hb hby d14_51) rfl (teq hc51_8).1 (by decide) (by decide) ?_
     refine XS.iconst X0.here hx rfl (hb hby d14_132) ?_
     refine XS.goto X0.here hx rfl (pc0 := 133) (pc' := 137) rfl (hb hby d14_133) (by decide) (by decide) ?_
     exact retN X0 hx (t := .boolean) Bd.returns (by simp) (hb hby d14_137) hr
    ·show Q14 Z p0 h0 n0 _ s₁.heap _
     rw [e0]
     exact ⟨by rw [fisT, if_pos hc3_2, if_neg hc45_6, if_pos hc51_8], N0, rfl⟩
   ·skip
    have G9 : ∀ t, Steps p.tables e below (s₁.setTop (mkF m 57 #[iv p0] [(.int (36 : Int32)), (.int p0)])) t → Steps p.tables e below (s₁.setTop (entryFrame m #[(.int p0)] 1)) t := by
     intro t kt
     refine G7 _ ?_
     refine XS.icmpNo X0.here hx rfl (hb hby d14_51) rfl (feq hc51_8).1 ?_
     refine XS.iloadN X0.here hx rfl (hb hby d14_54) rfl ?_
     refine XS.bipush X0.here hx rfl (hb hby d14_55) ?_
     exact kt
    by_cases hc57_10 : p0 = (36 : Int32)
    ·skip
     obtain ⟨fs, hr, hrun, hended, hW, hsame⟩ := X0.leave (v := some (.int (1 : Int32))) (fun h => by rw [Bd.returns] at h; cases h)
     refine ⟨_, _, G9 _ ?_, hrun, hended, _, _, rfl, ?_, ⟨_, rfl⟩, hW, hsame.mono (by decide) (by decide)⟩
     ·skip
      refine XS.icmpYes X0.here hx rfl (pc0 := 57) (pc' := 132) rfl (hb hby d14_57) rfl (teq hc57_10).1 (by decide) (by decide) ?_
      refine XS.iconst X0.here hx rfl (hb hby d14_132) ?_
      refine XS.goto X0.here hx rfl (pc0 := 133) (pc' := 137) rfl (hb hby d14_133) (by decide) (by decide) ?_
      exact retN X0 hx (t := .boolean) Bd.returns (by simp) (hb hby d14_137) hr
     ·show Q14 Z p0 h0 n0 _ s₁.heap _
      rw [e0]
      exact ⟨by rw [fisT, if_pos hc3_2, if_neg hc45_6, if_neg hc51_8, if_pos hc57_10], N0, rfl⟩
    ·skip
     have G11 : ∀ t, Steps p.tables e below (s₁.setTop (mkF m 63 #[iv p0] [(.int (37 : Int32)), (.int p0)])) t → Steps p.tables e below (s₁.setTop (entryFrame m #[(.int p0)] 1)) t := by
      intro t kt
      refine G9 _ ?_
      refine XS.icmpNo X0.here hx rfl (hb hby d14_57) rfl (feq hc57_10).1 ?_
      refine XS.iloadN X0.here hx rfl (hb hby d14_60) rfl ?_
      refine XS.bipush X0.here hx rfl (hb hby d14_61) ?_
      exact kt
     by_cases hc63_12 : p0 = (37 : Int32)
     ·skip
      obtain ⟨fs, hr, hrun, hended, hW, hsame⟩ := X0.leave (v := some (.int (1 : Int32))) (fun h => by rw [Bd.returns] at h; cases h)
      refine ⟨_, _, G11 _ ?_, hrun, hended, _, _, rfl, ?_, ⟨_, rfl⟩, hW, hsame.mono (by decide) (by decide)⟩
      ·skip
       refine XS.icmpYes X0.here hx rfl (pc0 := 63) (pc' := 132) rfl (hb hby d14_63) rfl (teq hc63_12).1 (by decide) (by decide) ?_
       refine XS.iconst X0.here hx rfl (hb hby d14_132) ?_
       refine XS.goto X0.here hx rfl (pc0 := 133) (pc' := 137) rfl (hb hby d14_133) (by decide) (by decide) ?_
       exact retN X0 hx (t := .boolean) Bd.returns (by simp) (hb hby d14_137) hr
      ·show Q14 Z p0 h0 n0 _ s₁.heap _
       rw [e0]
       exact ⟨by rw [fisT, if_pos hc3_2, if_neg hc45_6, if_neg hc51_8, if_neg hc57_10, if_pos hc63_12], N0, rfl⟩
     ·skip
      have G13 : ∀ t, Steps p.tables e below (s₁.setTop (mkF m 69 #[iv p0] [(.int (38 : Int32)), (.int p0)])) t → Steps p.tables e below (s₁.setTop (entryFrame m #[(.int p0)] 1)) t := by
       intro t kt
       refine G11 _ ?_
       refine XS.icmpNo X0.here hx rfl (hb hby d14_63) rfl (feq hc63_12).1 ?_
       refine XS.iloadN X0.here hx rfl (hb hby d14_66) rfl ?_
       refine XS.bipush X0.here hx rfl (hb hby d14_67) ?_
       exact kt
      by_cases hc69_14 : p0 = (38 : Int32)
      ·skip
       obtain ⟨fs, hr, hrun, hended, hW, hsame⟩ := X0.leave (v := some (.int (1 : Int32))) (fun h => by rw [Bd.returns] at h; cases h)
       refine ⟨_, _, G13 _ ?_, hrun, hended, _, _, rfl, ?_, ⟨_, rfl⟩, hW, hsame.mono (by decide) (by decide)⟩
       ·skip
        refine XS.icmpYes X0.here hx rfl (pc0 := 69) (pc' := 132) rfl (hb hby d14_69) rfl (teq hc69_14).1 (by decide) (by decide) ?_
        refine XS.iconst X0.here hx rfl (hb hby d14_132) ?_
        refine XS.goto X0.here hx rfl (pc0 := 133) (pc' := 137) rfl (hb hby d14_133) (by decide) (by decide) ?_
        exact retN X0 hx (t := .boolean) Bd.returns (by simp) (hb hby d14_137) hr
       ·show Q14 Z p0 h0 n0 _ s₁.heap _
        rw [e0]
        exact ⟨by rw [fisT, if_pos hc3_2, if_neg hc45_6, if_neg hc51_8, if_neg hc57_10, if_neg hc63_12, if_pos hc69_14], N0, rfl⟩
      ·skip
       have G15 : ∀ t, Steps p.tables e below (s₁.setTop (mkF m 75 #[iv p0] [(.int (39 : Int32)), (.int p0)])) t → Steps p.tables e below (s₁.setTop (entryFrame m #[(.int p0)] 1)) t := by
        intro t kt
        refine G13 _ ?_
        refine XS.icmpNo X0.here hx rfl (hb hby d14_69) rfl (feq hc69_14).1 ?_
        refine XS.iloadN X0.here hx rfl (hb hby d14_72) rfl ?_
        refine XS.bipush X0.here hx rfl (hb hby d14_73) ?_
        exact kt
       by_cases hc75_16 : p0 = (39 : Int32)
       ·skip
        obtain ⟨fs, hr, hrun, hended, hW, hsame⟩ := X0.leave (v := some (.int (1 : Int32))) (fun h => by rw [Bd.returns] at h; cases h)
        refine ⟨_, _, G15 _ ?_, hrun, hended, _, _, rfl, ?_, ⟨_, rfl⟩, hW, hsame.mono (by decide) (by decide)⟩
        ·skip
         refine XS.icmpYes X0.here hx rfl (pc0 := 75) (pc' := 132) rfl (hb hby d14_75) rfl (teq hc75_16).1 (by decide) (by decide) ?_
         refine XS.iconst X0.here hx rfl (hb hby d14_132) ?_
         show Steps p.tables e below (s₁.setTop (mkF m 133 #[iv p0] [(.int (1 : Int32))])) _
         refine XS.goto X0.here hx rfl (pc0 := 133) (pc' := 137) rfl (hb hby d14_133) (by decide) (by decide) ?_
         exact retN X0 hx (t := .boolean) Bd.returns (by simp) (hb hby d14_137) hr
        ·show Q14 Z p0 h0 n0 _ s₁.heap _
         rw [e0]
         exact ⟨by rw [fisT, if_pos hc3_2, if_neg hc45_6, if_neg hc51_8, if_neg hc57_10, if_neg hc63_12, if_neg hc69_14, if_pos hc75_16], N0, rfl⟩
       ·skip
        have G17 : ∀ t, Steps p.tables e below (s₁.setTop (mkF m 81 #[iv p0] [(.int (42 : Int32)), (.int p0)])) t → Steps p.tables e below (s₁.setTop (entryFrame m #[(.int p0)] 1)) t := by
         intro t kt
         refine G15 _ ?_
         refine XS.icmpNo X0.here hx rfl (hb hby d14_75) rfl (feq hc75_16).1 ?_
         refine XS.iloadN X0.here hx rfl (hb hby d14_78) rfl ?_
         show Steps p.tables e below (s₁.setTop (mkF m 79 #[iv p0] [(.int p0)])) _
         refine XS.bipush X0.here hx rfl (hb hby d14_79) ?_
         exact kt
        by_cases hc81_18 : p0 = (42 : Int32)
        ·skip
         obtain ⟨fs, hr, hrun, hended, hW, hsame⟩ := X0.leave (v := some (.int (1 : Int32))) (fun h => by rw [Bd.returns] at h; cases h)
         refine ⟨_, _, G17 _ ?_, hrun, hended, _, _, rfl, ?_, ⟨_, rfl⟩, hW, hsame.mono (by decide) (by decide)⟩
         ·skip
          refine XS.icmpYes X0.here hx rfl (pc0 := 81) (pc' := 132) rfl (hb hby d14_81) rfl (teq hc81_18).1 (by decide) (by decide) ?_
          refine XS.iconst X0.here hx rfl (hb hby d14_132) ?_
          refine XS.goto X0.here hx rfl (pc0 := 133) (pc' := 137) rfl (hb hby d14_133) (by decide) (by decide) ?_
          exact retN X0 hx (t := .boolean) Bd.returns (by simp) (hb hby d14_137) hr
         ·show Q14 Z p0 h0 n0 _ s₁.heap _
          rw [e0]
          exact ⟨by rw [fisT, if_pos hc3_2, if_neg hc45_6, if_neg hc51_8, if_neg hc57_10, if_neg hc63_12, if_neg hc69_14, if_neg hc75_16, if_pos hc81_18], N0, rfl⟩
        ·skip
         have G19 : ∀ t, Steps p.tables e below (s₁.setTop (mkF m 87 #[iv p0] [(.int (43 : Int32)), (.int p0)])) t → Steps p.tables e below (s₁.setTop (entryFrame m #[(.int p0)] 1)) t := by
          intro t kt
          refine G17 _ ?_
          refine XS.icmpNo X0.here hx rfl (hb hby d14_81) rfl (feq hc81_18).1 ?_
          refine XS.iloadN X0.here hx rfl (hb hby d14_84) rfl ?_
          refine XS.bipush X0.here hx rfl (hb hby d14_85) ?_
          exact kt
         by_cases hc87_20 : p0 = (43 : Int32)
         ·skip
          obtain ⟨fs, hr, hrun, hended, hW, hsame⟩ := X0.leave (v := some (.int (1 : Int32))) (fun h => by rw [Bd.returns] at h; cases h)
          refine ⟨_, _, G19 _ ?_, hrun, hended, _, _, rfl, ?_, ⟨_, rfl⟩, hW, hsame.mono (by decide) (by decide)⟩
          ·skip
           refine XS.icmpYes X0.here hx rfl (pc0 := 87) (pc' := 132) rfl (hb hby d14_87) rfl (teq hc87_20).1 (by decide) (by decide) ?_
           refine XS.iconst X0.here hx rfl (hb hby d14_132) ?_
           refine XS.goto X0.here hx rfl (pc0 := 133) (pc' := 137) rfl (hb hby d14_133) (by decide) (by decide) ?_
           exact retN X0 hx (t := .boolean) Bd.returns (by simp) (hb hby d14_137) hr
          ·show Q14 Z p0 h0 n0 _ s₁.heap _
           rw [e0]
           exact ⟨by rw [fisT, if_pos hc3_2, if_neg hc45_6, if_neg hc51_8, if_neg hc57_10, if_neg hc63_12, if_neg hc69_14, if_neg hc75_16, if_neg hc81_18, if_pos hc87_20], N0, rfl⟩
         ·skip
          have G21 : ∀ t, Steps p.tables e below (s₁.setTop (mkF m 93 #[iv p0] [(.int (45 : Int32)), (.int p0)])) t → Steps p.tables e below (s₁.setTop (entryFrame m #[(.int p0)] 1)) t := by
           intro t kt
           refine G19 _ ?_
           refine XS.icmpNo X0.here hx rfl (hb hby d14_87) rfl (feq hc87_20).1 ?_
           refine XS.iloadN X0.here hx rfl (hb hby d14_90) rfl ?_
           refine XS.bipush X0.here hx rfl (hb hby d14_91) ?_
           exact kt
          by_cases hc93_22 : p0 = (45 : Int32)
          ·skip
           obtain ⟨fs, hr, hrun, hended, hW, hsame⟩ := X0.leave (v := some (.int (1 : Int32))) (fun h => by rw [Bd.returns] at h; cases h)
           refine ⟨_, _, G21 _ ?_, hrun, hended, _, _, rfl, ?_, ⟨_, rfl⟩, hW, hsame.mono (by decide) (by decide)⟩
           ·skip
            refine XS.icmpYes X0.here hx rfl (pc0 := 93) (pc' := 132) rfl (hb hby d14_93) rfl (teq hc93_22).1 (by decide) (by decide) ?_
            refine XS.iconst X0.here hx rfl (hb hby d14_132) ?_
            refine XS.goto X0.here hx rfl (pc0 := 133) (pc' := 137) rfl (hb hby d14_133) (by decide) (by decide) ?_
            exact retN X0 hx (t := .boolean) Bd.returns (by simp) (hb hby d14_137) hr
           ·show Q14 Z p0 h0 n0 _ s₁.heap _
            rw [e0]
            exact ⟨by rw [fisT, if_pos hc3_2, if_neg hc45_6, if_neg hc51_8, if_neg hc57_10, if_neg hc63_12, if_neg hc69_14, if_neg hc75_16, if_neg hc81_18, if_neg hc87_20, if_pos hc93_22], N0, rfl⟩
          ·skip
           have G23 : ∀ t, Steps p.tables e below (s₁.setTop (mkF m 99 #[iv p0] [(.int (46 : Int32)), (.int p0)])) t → Steps p.tables e below (s₁.setTop (entryFrame m #[(.int p0)] 1)) t := by
            intro t kt
            refine G21 _ ?_
            refine XS.icmpNo X0.here hx rfl (hb hby d14_93) rfl (feq hc93_22).1 ?_
            refine XS.iloadN X0.here hx rfl (hb hby d14_96) rfl ?_
            refine XS.bipush X0.here hx rfl (hb hby d14_97) ?_
            exact kt
           by_cases hc99_24 : p0 = (46 : Int32)
           ·skip
            obtain ⟨fs, hr, hrun, hended, hW, hsame⟩ := X0.leave (v := some (.int (1 : Int32))) (fun h => by rw [Bd.returns] at h; cases h)
            refine ⟨_, _, G23 _ ?_, hrun, hended, _, _, rfl, ?_, ⟨_, rfl⟩, hW, hsame.mono (by decide) (by decide)⟩
            ·skip
             refine XS.icmpYes X0.here hx rfl (pc0 := 99) (pc' := 132) rfl (hb hby d14_99) rfl (teq hc99_24).1 (by decide) (by decide) ?_
             refine XS.iconst X0.here hx rfl (hb hby d14_132) ?_
             refine XS.goto X0.here hx rfl (pc0 := 133) (pc' := 137) rfl (hb hby d14_133) (by decide) (by decide) ?_
             exact retN X0 hx (t := .boolean) Bd.returns (by simp) (hb hby d14_137) hr
            ·show Q14 Z p0 h0 n0 _ s₁.heap _
             rw [e0]
             exact ⟨by rw [fisT, if_pos hc3_2, if_neg hc45_6, if_neg hc51_8, if_neg hc57_10, if_neg hc63_12, if_neg hc69_14, if_neg hc75_16, if_neg hc81_18, if_neg hc87_20, if_neg hc93_22, if_pos hc99_24], N0, rfl⟩
           ·skip
            have G25 : ∀ t, Steps p.tables e below (s₁.setTop (mkF m 105 #[iv p0] [(.int (94 : Int32)), (.int p0)])) t → Steps p.tables e below (s₁.setTop (entryFrame m #[(.int p0)] 1)) t := by
             intro t kt
             refine G23 _ ?_
             refine XS.icmpNo X0.here hx rfl (hb hby d14_99) rfl (feq hc99_24).1 ?_
             refine XS.iloadN X0.here hx rfl (hb hby d14_102) rfl ?_
             refine XS.bipush X0.here hx rfl (hb hby d14_103) ?_
             exact kt
            have G26 : ∀ t, Steps p.tables e below (s₁.setTop (mkF m 111 #[iv p0] [(.int (95 : Int32)), (.int p0)])) t → Steps p.tables e below (s₁.setTop (entryFrame m #[(.int p0)] 1)) t := by
             intro t kt
             refine G25 _ ?_
             refine XS.icmpNo X0.here hx rfl (hb hby d14_105) rfl (feq (own_i3 hc3_2 (by decide))).1 ?_
             refine XS.iloadN X0.here hx rfl (hb hby d14_108) rfl ?_
             refine XS.bipush X0.here hx rfl (hb hby d14_109) ?_
             exact kt
            have G27 : ∀ t, Steps p.tables e below (s₁.setTop (mkF m 117 #[iv p0] [(.int (96 : Int32)), (.int p0)])) t → Steps p.tables e below (s₁.setTop (entryFrame m #[(.int p0)] 1)) t := by
             intro t kt
             refine G26 _ ?_
             refine XS.icmpNo X0.here hx rfl (hb hby d14_111) rfl (feq (own_i3 hc3_2 (by decide))).1 ?_
             refine XS.iloadN X0.here hx rfl (hb hby d14_114) rfl ?_
             refine XS.bipush X0.here hx rfl (hb hby d14_115) ?_
             exact kt
            have G28 : ∀ t, Steps p.tables e below (s₁.setTop (mkF m 123 #[iv p0] [(.int (124 : Int32)), (.int p0)])) t → Steps p.tables e below (s₁.setTop (entryFrame m #[(.int p0)] 1)) t := by
             intro t kt
             refine G27 _ ?_
             refine XS.icmpNo X0.here hx rfl (hb hby d14_117) rfl (feq (own_i3 hc3_2 (by decide))).1 ?_
             refine XS.iloadN X0.here hx rfl (hb hby d14_120) rfl ?_
             refine XS.bipush X0.here hx rfl (hb hby d14_121) ?_
             exact kt
            have G29 : ∀ t, Steps p.tables e below (s₁.setTop (mkF m 129 #[iv p0] [(.int (126 : Int32)), (.int p0)])) t → Steps p.tables e below (s₁.setTop (entryFrame m #[(.int p0)] 1)) t := by
             intro t kt
             refine G28 _ ?_
             refine XS.icmpNo X0.here hx rfl (hb hby d14_123) rfl (feq (own_i3 hc3_2 (by decide))).1 ?_
             refine XS.iloadN X0.here hx rfl (hb hby d14_126) rfl ?_
             refine XS.bipush X0.here hx rfl (hb hby d14_127) ?_
             exact kt
            obtain ⟨fs, hr, hrun, hended, hW, hsame⟩ := X0.leave (v := some (.int (0 : Int32))) (fun h => by rw [Bd.returns] at h; cases h)
            refine ⟨_, _, G29 _ ?_, hrun, hended, _, _, rfl, ?_, ⟨_, rfl⟩, hW, hsame.mono (by decide) (by decide)⟩
            ·skip
             refine XS.icmpYes X0.here hx rfl (pc0 := 129) (pc' := 136) rfl (hb hby d14_129) rfl (feq (own_i3 hc3_2 (by decide))).2 (by decide) (by decide) ?_
             refine XS.iconst X0.here hx rfl (hb hby d14_136) ?_
             exact retN X0 hx (t := .boolean) Bd.returns (by simp) (hb hby d14_137) hr
            ·show Q14 Z p0 h0 n0 _ s₁.heap _
             rw [e0]
             exact ⟨by rw [fisT, if_pos hc3_2, if_neg hc45_6, if_neg hc51_8, if_neg hc57_10, if_neg hc63_12, if_neg hc69_14, if_neg hc75_16, if_neg hc81_18, if_neg hc87_20, if_neg hc93_22, if_neg hc99_24], N0, rfl⟩
 ·skip
  have G30 : ∀ t, Steps p.tables e below (s₁.setTop (mkF m 9 #[iv p0] [(.int (57 : Int32)), (.int p0)])) t → Steps p.tables e below (s₁.setTop (entryFrame m #[(.int p0)] 1)) t := by
   intro t kt
   refine G1 _ ?_
   refine XS.icmpNo X0.here hx rfl (hb hby d14_3) rfl (flt hc3_2).1 ?_
   refine XS.iloadN X0.here hx rfl (hb hby d14_6) rfl ?_
   refine XS.bipush X0.here hx rfl (hb hby d14_7) ?_
   exact kt
  by_cases hc9_31 : (57 : Int32) < p0
  ·skip
   have G32 : ∀ t, Steps p.tables e below (s₁.setTop (mkF m 17 #[iv p0] [(.int (65 : Int32)), (.int p0)])) t → Steps p.tables e below (s₁.setTop (entryFrame m #[(.int p0)] 1)) t := by
    intro t kt
    refine G30 _ ?_
    refine XS.icmpYes X0.here hx rfl (pc0 := 9) (pc' := 14) rfl (hb hby d14_9) rfl (tlt hc9_31).2.2.1 (by decide) (by decide) ?_
    refine XS.iloadN X0.here hx rfl (hb hby d14_14) rfl ?_
    refine XS.bipush X0.here hx rfl (hb hby d14_15) ?_
    exact kt
   by_cases hc17_33 : p0 < (65 : Int32)
   ·skip
    have G34 : ∀ t, Steps p.tables e below (s₁.setTop (mkF m 31 #[iv p0] [(.int (97 : Int32)), (.int p0)])) t → Steps p.tables e below (s₁.setTop (entryFrame m #[(.int p0)] 1)) t := by
     intro t kt
     refine G32 _ ?_
     refine XS.icmpYes X0.here hx rfl (pc0 := 17) (pc' := 28) rfl (hb hby d14_17) rfl (tlt hc17_33).1 (by decide) (by decide) ?_
     refine XS.iloadN X0.here hx rfl (hb hby d14_28) rfl ?_
     refine XS.bipush X0.here hx rfl (hb hby d14_29) ?_
     exact kt
    have G35 : ∀ t, Steps p.tables e below (s₁.setTop (mkF m 45 #[iv p0] [(.int (33 : Int32)), (.int p0)])) t → Steps p.tables e below (s₁.setTop (entryFrame m #[(.int p0)] 1)) t := by
     intro t kt
     refine G34 _ ?_
     refine XS.icmpYes X0.here hx rfl (pc0 := 31) (pc' := 42) rfl (hb hby d14_31) rfl (tlt (own_i1 hc17_33 (by decide))).1 (by decide) (by decide) ?_
     refine XS.iloadN X0.here hx rfl (hb hby d14_42) rfl ?_
     refine XS.bipush X0.here hx rfl (hb hby d14_43) ?_
     exact kt
    have G36 : ∀ t, Steps p.tables e below (s₁.setTop (mkF m 51 #[iv p0] [(.int (35 : Int32)), (.int p0)])) t → Steps p.tables e below (s₁.setTop (entryFrame m #[(.int p0)] 1)) t := by
     intro t kt
     refine G35 _ ?_
     refine XS.icmpNo X0.here hx rfl (hb hby d14_45) rfl (feq (own_i5 hc3_2 (by decide))).1 ?_
     refine XS.iloadN X0.here hx rfl (hb hby d14_48) rfl ?_
     refine XS.bipush X0.here hx rfl (hb hby d14_49) ?_
     exact kt
    have G37 : ∀ t, Steps p.tables e below (s₁.setTop (mkF m 57 #[iv p0] [(.int (36 : Int32)), (.int p0)])) t → Steps p.tables e below (s₁.setTop (entryFrame m #[(.int p0)] 1)) t := by
     intro t kt
     refine G36 _ ?_
     refine XS.icmpNo X0.here hx rfl (hb hby d14_51) rfl (feq (own_i5 hc3_2 (by decide))).1 ?_
     refine XS.iloadN X0.here hx rfl (hb hby d14_54) rfl ?_
     refine XS.bipush X0.here hx rfl (hb hby d14_55) ?_
     exact kt
    have G38 : ∀ t, Steps p.tables e below (s₁.setTop (mkF m 63 #[iv p0] [(.int (37 : Int32)), (.int p0)])) t → Steps p.tables e below (s₁.setTop (entryFrame m #[(.int p0)] 1)) t := by
     intro t kt
     refine G37 _ ?_
     refine XS.icmpNo X0.here hx rfl (hb hby d14_57) rfl (feq (own_i5 hc3_2 (by decide))).1 ?_
     refine XS.iloadN X0.here hx rfl (hb hby d14_60) rfl ?_
     refine XS.bipush X0.here hx rfl (hb hby d14_61) ?_
     exact kt
    have G39 : ∀ t, Steps p.tables e below (s₁.setTop (mkF m 69 #[iv p0] [(.int (38 : Int32)), (.int p0)])) t → Steps p.tables e below (s₁.setTop (entryFrame m #[(.int p0)] 1)) t := by
     intro t kt
     refine G38 _ ?_
     refine XS.icmpNo X0.here hx rfl (hb hby d14_63) rfl (feq (own_i5 hc3_2 (by decide))).1 ?_
     refine XS.iloadN X0.here hx rfl (hb hby d14_66) rfl ?_
     refine XS.bipush X0.here hx rfl (hb hby d14_67) ?_
     exact kt
    have G40 : ∀ t, Steps p.tables e below (s₁.setTop (mkF m 75 #[iv p0] [(.int (39 : Int32)), (.int p0)])) t → Steps p.tables e below (s₁.setTop (entryFrame m #[(.int p0)] 1)) t := by
     intro t kt
     refine G39 _ ?_
     refine XS.icmpNo X0.here hx rfl (hb hby d14_69) rfl (feq (own_i5 hc3_2 (by decide))).1 ?_
     refine XS.iloadN X0.here hx rfl (hb hby d14_72) rfl ?_
     show Steps p.tables e below (s₁.setTop (mkF m 73 #[iv p0] [(.int p0)])) _
     refine XS.bipush X0.here hx rfl (hb hby d14_73) ?_
     exact kt
    have G41 : ∀ t, Steps p.tables e below (s₁.setTop (mkF m 81 #[iv p0] [(.int (42 : Int32)), (.int p0)])) t → Steps p.tables e below (s₁.setTop (entryFrame m #[(.int p0)] 1)) t := by
     intro t kt
     refine G40 _ ?_
     refine XS.icmpNo X0.here hx rfl (hb hby d14_75) rfl (feq (own_i5 hc3_2 (by decide))).1 ?_
     refine XS.iloadN X0.here hx rfl (hb hby d14_78) rfl ?_
     refine XS.bipush X0.here hx rfl (hb hby d14_79) ?_
     exact kt
    have G42 : ∀ t, Steps p.tables e below (s₁.setTop (mkF m 87 #[iv p0] [(.int (43 : Int32)), (.int p0)])) t → Steps p.tables e below (s₁.setTop (entryFrame m #[(.int p0)] 1)) t := by
     intro t kt
     refine G41 _ ?_
     refine XS.icmpNo X0.here hx rfl (hb hby d14_81) rfl (feq (own_i5 hc3_2 (by decide))).1 ?_
     refine XS.iloadN X0.here hx rfl (hb hby d14_84) rfl ?_
     refine XS.bipush X0.here hx rfl (hb hby d14_85) ?_
     exact kt
    have G43 : ∀ t, Steps p.tables e below (s₁.setTop (mkF m 93 #[iv p0] [(.int (45 : Int32)), (.int p0)])) t → Steps p.tables e below (s₁.setTop (entryFrame m #[(.int p0)] 1)) t := by
     intro t kt
     refine G42 _ ?_
     refine XS.icmpNo X0.here hx rfl (hb hby d14_87) rfl (feq (own_i5 hc3_2 (by decide))).1 ?_
     refine XS.iloadN X0.here hx rfl (hb hby d14_90) rfl ?_
     refine XS.bipush X0.here hx rfl (hb hby d14_91) ?_
     exact kt
    have G44 : ∀ t, Steps p.tables e below (s₁.setTop (mkF m 99 #[iv p0] [(.int (46 : Int32)), (.int p0)])) t → Steps p.tables e below (s₁.setTop (entryFrame m #[(.int p0)] 1)) t := by
     intro t kt
     refine G43 _ ?_
     refine XS.icmpNo X0.here hx rfl (hb hby d14_93) rfl (feq (own_i5 hc3_2 (by decide))).1 ?_
     refine XS.iloadN X0.here hx rfl (hb hby d14_96) rfl ?_
     refine XS.bipush X0.here hx rfl (hb hby d14_97) ?_
     exact kt
    have G45 : ∀ t, Steps p.tables e below (s₁.setTop (mkF m 105 #[iv p0] [(.int (94 : Int32)), (.int p0)])) t → Steps p.tables e below (s₁.setTop (entryFrame m #[(.int p0)] 1)) t := by
     intro t kt
     refine G44 _ ?_
     refine XS.icmpNo X0.here hx rfl (hb hby d14_99) rfl (feq (own_i5 hc3_2 (by decide))).1 ?_
     refine XS.iloadN X0.here hx rfl (hb hby d14_102) rfl ?_
     refine XS.bipush X0.here hx rfl (hb hby d14_103) ?_
     exact kt
    have G46 : ∀ t, Steps p.tables e below (s₁.setTop (mkF m 111 #[iv p0] [(.int (95 : Int32)), (.int p0)])) t → Steps p.tables e below (s₁.setTop (entryFrame m #[(.int p0)] 1)) t := by
     intro t kt
     refine G45 _ ?_
     refine XS.icmpNo X0.here hx rfl (hb hby d14_105) rfl (feq (own_i3 hc17_33 (by decide))).1 ?_
     refine XS.iloadN X0.here hx rfl (hb hby d14_108) rfl ?_
     refine XS.bipush X0.here hx rfl (hb hby d14_109) ?_
     exact kt
    have G47 : ∀ t, Steps p.tables e below (s₁.setTop (mkF m 117 #[iv p0] [(.int (96 : Int32)), (.int p0)])) t → Steps p.tables e below (s₁.setTop (entryFrame m #[(.int p0)] 1)) t := by
     intro t kt
     refine G46 _ ?_
     refine XS.icmpNo X0.here hx rfl (hb hby d14_111) rfl (feq (own_i3 hc17_33 (by decide))).1 ?_
     refine XS.iloadN X0.here hx rfl (hb hby d14_114) rfl ?_
     refine XS.bipush X0.here hx rfl (hb hby d14_115) ?_
     exact kt
    have G48 : ∀ t, Steps p.tables e below (s₁.setTop (mkF m 123 #[iv p0] [(.int (124 : Int32)), (.int p0)])) t → Steps p.tables e below (s₁.setTop (entryFrame m #[(.int p0)] 1)) t := by
     intro t kt
     refine G47 _ ?_
     refine XS.icmpNo X0.here hx rfl (hb hby d14_117) rfl (feq (own_i3 hc17_33 (by decide))).1 ?_
     refine XS.iloadN X0.here hx rfl (hb hby d14_120) rfl ?_
     refine XS.bipush X0.here hx rfl (hb hby d14_121) ?_
     exact kt
    have G49 : ∀ t, Steps p.tables e below (s₁.setTop (mkF m 129 #[iv p0] [(.int (126 : Int32)), (.int p0)])) t → Steps p.tables e below (s₁.setTop (entryFrame m #[(.int p0)] 1)) t := by
     intro t kt
     refine G48 _ ?_
     refine XS.icmpNo X0.here hx rfl (hb hby d14_123) rfl (feq (own_i3 hc17_33 (by decide))).1 ?_
     refine XS.iloadN X0.here hx rfl (hb hby d14_126) rfl ?_
     refine XS.bipush X0.here hx rfl (hb hby d14_127) ?_
     exact kt
    obtain ⟨fs, hr, hrun, hended, hW, hsame⟩ := X0.leave (v := some (.int (0 : Int32))) (fun h => by rw [Bd.returns] at h; cases h)
    refine ⟨_, _, G49 _ ?_, hrun, hended, _, _, rfl, ?_, ⟨_, rfl⟩, hW, hsame.mono (by decide) (by decide)⟩
    ·skip
     refine XS.icmpYes X0.here hx rfl (pc0 := 129) (pc' := 136) rfl (hb hby d14_129) rfl (feq (own_i3 hc17_33 (by decide))).2 (by decide) (by decide) ?_
     refine XS.iconst X0.here hx rfl (hb hby d14_136) ?_
     show Steps p.tables e below (s₁.setTop (mkF m 137 #[iv p0] [(.int (0 : Int32))])) _
     exact retN X0 hx (t := .boolean) Bd.returns (by simp) (hb hby d14_137) hr
    ·show Q14 Z p0 h0 n0 _ s₁.heap _
     rw [e0]
     exact ⟨by rw [fisT, if_neg hc3_2, if_pos hc9_31, if_pos hc17_33], N0, rfl⟩
   ·skip
    have G50 : ∀ t, Steps p.tables e below (s₁.setTop (mkF m 23 #[iv p0] [(.int (90 : Int32)), (.int p0)])) t → Steps p.tables e below (s₁.setTop (entryFrame m #[(.int p0)] 1)) t := by
     intro t kt
     refine G32 _ ?_
     refine XS.icmpNo X0.here hx rfl (hb hby d14_17) rfl (flt hc17_33).1 ?_
     refine XS.iloadN X0.here hx rfl (hb hby d14_20) rfl ?_
     refine XS.bipush X0.here hx rfl (hb hby d14_21) ?_
     exact kt
    by_cases hc23_51 : (90 : Int32) < p0
    ·skip
     have G52 : ∀ t, Steps p.tables e below (s₁.setTop (mkF m 31 #[iv p0] [(.int (97 : Int32)), (.int p0)])) t → Steps p.tables e below (s₁.setTop (entryFrame m #[(.int p0)] 1)) t := by
      intro t kt
      refine G50 _ ?_
      refine XS.icmpYes X0.here hx rfl (pc0 := 23) (pc' := 28) rfl (hb hby d14_23) rfl (tlt hc23_51).2.2.1 (by decide) (by decide) ?_
      refine XS.iloadN X0.here hx rfl (hb hby d14_28) rfl ?_
      refine XS.bipush X0.here hx rfl (hb hby d14_29) ?_
      exact kt
     by_cases hc31_53 : p0 < (97 : Int32)
     ·skip
      have G54 : ∀ t, Steps p.tables e below (s₁.setTop (mkF m 45 #[iv p0] [(.int (33 : Int32)), (.int p0)])) t → Steps p.tables e below (s₁.setTop (entryFrame m #[(.int p0)] 1)) t := by
       intro t kt
       refine G52 _ ?_
       refine XS.icmpYes X0.here hx rfl (pc0 := 31) (pc' := 42) rfl (hb hby d14_31) rfl (tlt hc31_53).1 (by decide) (by decide) ?_
       refine XS.iloadN X0.here hx rfl (hb hby d14_42) rfl ?_
       refine XS.bipush X0.here hx rfl (hb hby d14_43) ?_
       exact kt
      have G55 : ∀ t, Steps p.tables e below (s₁.setTop (mkF m 51 #[iv p0] [(.int (35 : Int32)), (.int p0)])) t → Steps p.tables e below (s₁.setTop (entryFrame m #[(.int p0)] 1)) t := by
       intro t kt
       refine G54 _ ?_
       refine XS.icmpNo X0.here hx rfl (hb hby d14_45) rfl (feq (own_i5 hc3_2 (by decide))).1 ?_
       refine XS.iloadN X0.here hx rfl (hb hby d14_48) rfl ?_
       refine XS.bipush X0.here hx rfl (hb hby d14_49) ?_
       exact kt
      have G56 : ∀ t, Steps p.tables e below (s₁.setTop (mkF m 57 #[iv p0] [(.int (36 : Int32)), (.int p0)])) t → Steps p.tables e below (s₁.setTop (entryFrame m #[(.int p0)] 1)) t := by
       intro t kt
       refine G55 _ ?_
       refine XS.icmpNo X0.here hx rfl (hb hby d14_51) rfl (feq (own_i5 hc3_2 (by decide))).1 ?_
       refine XS.iloadN X0.here hx rfl (hb hby d14_54) rfl ?_
       refine XS.bipush X0.here hx rfl (hb hby d14_55) ?_
       exact kt
      have G57 : ∀ t, Steps p.tables e below (s₁.setTop (mkF m 63 #[iv p0] [(.int (37 : Int32)), (.int p0)])) t → Steps p.tables e below (s₁.setTop (entryFrame m #[(.int p0)] 1)) t := by
       intro t kt
       refine G56 _ ?_
       refine XS.icmpNo X0.here hx rfl (hb hby d14_57) rfl (feq (own_i5 hc3_2 (by decide))).1 ?_
       refine XS.iloadN X0.here hx rfl (hb hby d14_60) rfl ?_
       refine XS.bipush X0.here hx rfl (hb hby d14_61) ?_
       exact kt
      have G58 : ∀ t, Steps p.tables e below (s₁.setTop (mkF m 69 #[iv p0] [(.int (38 : Int32)), (.int p0)])) t → Steps p.tables e below (s₁.setTop (entryFrame m #[(.int p0)] 1)) t := by
       intro t kt
       refine G57 _ ?_
       refine XS.icmpNo X0.here hx rfl (hb hby d14_63) rfl (feq (own_i5 hc3_2 (by decide))).1 ?_
       refine XS.iloadN X0.here hx rfl (hb hby d14_66) rfl ?_
       show Steps p.tables e below (s₁.setTop (mkF m 67 #[iv p0] [(.int p0)])) _
       refine XS.bipush X0.here hx rfl (hb hby d14_67) ?_
       exact kt
      have G59 : ∀ t, Steps p.tables e below (s₁.setTop (mkF m 75 #[iv p0] [(.int (39 : Int32)), (.int p0)])) t → Steps p.tables e below (s₁.setTop (entryFrame m #[(.int p0)] 1)) t := by
       intro t kt
       refine G58 _ ?_
       refine XS.icmpNo X0.here hx rfl (hb hby d14_69) rfl (feq (own_i5 hc3_2 (by decide))).1 ?_
       refine XS.iloadN X0.here hx rfl (hb hby d14_72) rfl ?_
       refine XS.bipush X0.here hx rfl (hb hby d14_73) ?_
       exact kt
      have G60 : ∀ t, Steps p.tables e below (s₁.setTop (mkF m 81 #[iv p0] [(.int (42 : Int32)), (.int p0)])) t → Steps p.tables e below (s₁.setTop (entryFrame m #[(.int p0)] 1)) t := by
       intro t kt
       refine G59 _ ?_
       refine XS.icmpNo X0.here hx rfl (hb hby d14_75) rfl (feq (own_i5 hc3_2 (by decide))).1 ?_
       refine XS.iloadN X0.here hx rfl (hb hby d14_78) rfl ?_
       refine XS.bipush X0.here hx rfl (hb hby d14_79) ?_
       exact kt
      have G61 : ∀ t, Steps p.tables e below (s₁.setTop (mkF m 87 #[iv p0] [(.int (43 : Int32)), (.int p0)])) t → Steps p.tables e below (s₁.setTop (entryFrame m #[(.int p0)] 1)) t := by
       intro t kt
       refine G60 _ ?_
       refine XS.icmpNo X0.here hx rfl (hb hby d14_81) rfl (feq (own_i5 hc3_2 (by decide))).1 ?_
       refine XS.iloadN X0.here hx rfl (hb hby d14_84) rfl ?_
       refine XS.bipush X0.here hx rfl (hb hby d14_85) ?_
       exact kt
      have G62 : ∀ t, Steps p.tables e below (s₁.setTop (mkF m 93 #[iv p0] [(.int (45 : Int32)), (.int p0)])) t → Steps p.tables e below (s₁.setTop (entryFrame m #[(.int p0)] 1)) t := by
       intro t kt
       refine G61 _ ?_
       refine XS.icmpNo X0.here hx rfl (hb hby d14_87) rfl (feq (own_i5 hc3_2 (by decide))).1 ?_
       refine XS.iloadN X0.here hx rfl (hb hby d14_90) rfl ?_
       refine XS.bipush X0.here hx rfl (hb hby d14_91) ?_
       exact kt
      have G63 : ∀ t, Steps p.tables e below (s₁.setTop (mkF m 99 #[iv p0] [(.int (46 : Int32)), (.int p0)])) t → Steps p.tables e below (s₁.setTop (entryFrame m #[(.int p0)] 1)) t := by
       intro t kt
       refine G62 _ ?_
       refine XS.icmpNo X0.here hx rfl (hb hby d14_93) rfl (feq (own_i5 hc3_2 (by decide))).1 ?_
       refine XS.iloadN X0.here hx rfl (hb hby d14_96) rfl ?_
       refine XS.bipush X0.here hx rfl (hb hby d14_97) ?_
       exact kt
      have G64 : ∀ t, Steps p.tables e below (s₁.setTop (mkF m 105 #[iv p0] [(.int (94 : Int32)), (.int p0)])) t → Steps p.tables e below (s₁.setTop (entryFrame m #[(.int p0)] 1)) t := by
       intro t kt
       refine G63 _ ?_
       refine XS.icmpNo X0.here hx rfl (hb hby d14_99) rfl (feq (own_i5 hc3_2 (by decide))).1 ?_
       refine XS.iloadN X0.here hx rfl (hb hby d14_102) rfl ?_
       refine XS.bipush X0.here hx rfl (hb hby d14_103) ?_
       exact kt
      by_cases hc105_65 : p0 = (94 : Int32)
      ·skip
       obtain ⟨fs, hr, hrun, hended, hW, hsame⟩ := X0.leave (v := some (.int (1 : Int32))) (fun h => by rw [Bd.returns] at h; cases h)
       refine ⟨_, _, G64 _ ?_, hrun, hended, _, _, rfl, ?_, ⟨_, rfl⟩, hW, hsame.mono (by decide) (by decide)⟩
       ·skip
        refine XS.icmpYes X0.here hx rfl (pc0 := 105) (pc' := 132) rfl (hb hby d14_105) rfl (teq hc105_65).1 (by decide) (by decide) ?_
        refine XS.iconst X0.here hx rfl (hb hby d14_132) ?_
        refine XS.goto X0.here hx rfl (pc0 := 133) (pc' := 137) rfl (hb hby d14_133) (by decide) (by decide) ?_
        exact retN X0 hx (t := .boolean) Bd.returns (by simp) (hb hby d14_137) hr
       ·show Q14 Z p0 h0 n0 _ s₁.heap _
        rw [e0]
        exact ⟨by rw [fisT, if_neg hc3_2, if_pos hc9_31, if_neg hc17_33, if_pos hc23_51, if_pos hc31_53, if_pos hc105_65], N0, rfl⟩
      ·skip
       have G66 : ∀ t, Steps p.tables e below (s₁.setTop (mkF m 111 #[iv p0] [(.int (95 : Int32)), (.int p0)])) t → Steps p.tables e below (s₁.setTop (entryFrame m #[(.int p0)] 1)) t := by
        intro t kt
        refine G64 _ ?_
        refine XS.icmpNo X0.here hx rfl (hb hby d14_105) rfl (feq hc105_65).1 ?_
        refine XS.iloadN X0.here hx rfl (hb hby d14_108) rfl ?_
        refine XS.bipush X0.here hx rfl (hb hby d14_109) ?_
        exact kt
       by_cases hc111_67 : p0 = (95 : Int32)
       ·skip
        obtain ⟨fs, hr, hrun, hended, hW, hsame⟩ := X0.leave (v := some (.int (1 : Int32))) (fun h => by rw [Bd.returns] at h; cases h)
        refine ⟨_, _, G66 _ ?_, hrun, hended, _, _, rfl, ?_, ⟨_, rfl⟩, hW, hsame.mono (by decide) (by decide)⟩
        ·skip
         refine XS.icmpYes X0.here hx rfl (pc0 := 111) (pc' := 132) rfl (hb hby d14_111) rfl (teq hc111_67).1 (by decide) (by decide) ?_
         refine XS.iconst X0.here hx rfl (hb hby d14_132) ?_
         refine XS.goto X0.here hx rfl (pc0 := 133) (pc' := 137) rfl (hb hby d14_133) (by decide) (by decide) ?_
         exact retN X0 hx (t := .boolean) Bd.returns (by simp) (hb hby d14_137) hr
        ·show Q14 Z p0 h0 n0 _ s₁.heap _
         rw [e0]
         exact ⟨by rw [fisT, if_neg hc3_2, if_pos hc9_31, if_neg hc17_33, if_pos hc23_51, if_pos hc31_53, if_neg hc105_65, if_pos hc111_67], N0, rfl⟩
       ·skip
        have G68 : ∀ t, Steps p.tables e below (s₁.setTop (mkF m 117 #[iv p0] [(.int (96 : Int32)), (.int p0)])) t → Steps p.tables e below (s₁.setTop (entryFrame m #[(.int p0)] 1)) t := by
         intro t kt
         refine G66 _ ?_
         refine XS.icmpNo X0.here hx rfl (hb hby d14_111) rfl (feq hc111_67).1 ?_
         refine XS.iloadN X0.here hx rfl (hb hby d14_114) rfl ?_
         refine XS.bipush X0.here hx rfl (hb hby d14_115) ?_
         exact kt
        by_cases hc117_69 : p0 = (96 : Int32)
        ·skip
         obtain ⟨fs, hr, hrun, hended, hW, hsame⟩ := X0.leave (v := some (.int (1 : Int32))) (fun h => by rw [Bd.returns] at h; cases h)
         refine ⟨_, _, G68 _ ?_, hrun, hended, _, _, rfl, ?_, ⟨_, rfl⟩, hW, hsame.mono (by decide) (by decide)⟩
         ·skip
          refine XS.icmpYes X0.here hx rfl (pc0 := 117) (pc' := 132) rfl (hb hby d14_117) rfl (teq hc117_69).1 (by decide) (by decide) ?_
          refine XS.iconst X0.here hx rfl (hb hby d14_132) ?_
          refine XS.goto X0.here hx rfl (pc0 := 133) (pc' := 137) rfl (hb hby d14_133) (by decide) (by decide) ?_
          exact retN X0 hx (t := .boolean) Bd.returns (by simp) (hb hby d14_137) hr
         ·show Q14 Z p0 h0 n0 _ s₁.heap _
          rw [e0]
          exact ⟨by rw [fisT, if_neg hc3_2, if_pos hc9_31, if_neg hc17_33, if_pos hc23_51, if_pos hc31_53, if_neg hc105_65, if_neg hc111_67, if_pos hc117_69], N0, rfl⟩
        ·skip
         have G70 : ∀ t, Steps p.tables e below (s₁.setTop (mkF m 123 #[iv p0] [(.int (124 : Int32)), (.int p0)])) t → Steps p.tables e below (s₁.setTop (entryFrame m #[(.int p0)] 1)) t := by
          intro t kt
          refine G68 _ ?_
          refine XS.icmpNo X0.here hx rfl (hb hby d14_117) rfl (feq hc117_69).1 ?_
          refine XS.iloadN X0.here hx rfl (hb hby d14_120) rfl ?_
          refine XS.bipush X0.here hx rfl (hb hby d14_121) ?_
          exact kt
         have G71 : ∀ t, Steps p.tables e below (s₁.setTop (mkF m 129 #[iv p0] [(.int (126 : Int32)), (.int p0)])) t → Steps p.tables e below (s₁.setTop (entryFrame m #[(.int p0)] 1)) t := by
          intro t kt
          refine G70 _ ?_
          refine XS.icmpNo X0.here hx rfl (hb hby d14_123) rfl (feq (own_i3 hc31_53 (by decide))).1 ?_
          refine XS.iloadN X0.here hx rfl (hb hby d14_126) rfl ?_
          show Steps p.tables e below (s₁.setTop (mkF m 127 #[iv p0] [(.int p0)])) _
          refine XS.bipush X0.here hx rfl (hb hby d14_127) ?_
          exact kt
         obtain ⟨fs, hr, hrun, hended, hW, hsame⟩ := X0.leave (v := some (.int (0 : Int32))) (fun h => by rw [Bd.returns] at h; cases h)
         refine ⟨_, _, G71 _ ?_, hrun, hended, _, _, rfl, ?_, ⟨_, rfl⟩, hW, hsame.mono (by decide) (by decide)⟩
         ·skip
          refine XS.icmpYes X0.here hx rfl (pc0 := 129) (pc' := 136) rfl (hb hby d14_129) rfl (feq (own_i3 hc31_53 (by decide))).2 (by decide) (by decide) ?_
          refine XS.iconst X0.here hx rfl (hb hby d14_136) ?_
          exact retN X0 hx (t := .boolean) Bd.returns (by simp) (hb hby d14_137) hr
         ·show Q14 Z p0 h0 n0 _ s₁.heap _
          rw [e0]
          exact ⟨by rw [fisT, if_neg hc3_2, if_pos hc9_31, if_neg hc17_33, if_pos hc23_51, if_pos hc31_53, if_neg hc105_65, if_neg hc111_67, if_neg hc117_69], N0, rfl⟩
     ·skip
      have G72 : ∀ t, Steps p.tables e below (s₁.setTop (mkF m 37 #[iv p0] [(.int (122 : Int32)), (.int p0)])) t → Steps p.tables e below (s₁.setTop (entryFrame m #[(.int p0)] 1)) t := by
       intro t kt
       refine G52 _ ?_
       refine XS.icmpNo X0.here hx rfl (hb hby d14_31) rfl (flt hc31_53).1 ?_
       refine XS.iloadN X0.here hx rfl (hb hby d14_34) rfl ?_
       refine XS.bipush X0.here hx rfl (hb hby d14_35) ?_
       exact kt
      by_cases hc37_73 : (122 : Int32) < p0
      ·skip
       have G74 : ∀ t, Steps p.tables e below (s₁.setTop (mkF m 45 #[iv p0] [(.int (33 : Int32)), (.int p0)])) t → Steps p.tables e below (s₁.setTop (entryFrame m #[(.int p0)] 1)) t := by
        intro t kt
        refine G72 _ ?_
        refine XS.icmpYes X0.here hx rfl (pc0 := 37) (pc' := 42) rfl (hb hby d14_37) rfl (tlt hc37_73).2.2.1 (by decide) (by decide) ?_
        refine XS.iloadN X0.here hx rfl (hb hby d14_42) rfl ?_
        refine XS.bipush X0.here hx rfl (hb hby d14_43) ?_
        exact kt
       have G75 : ∀ t, Steps p.tables e below (s₁.setTop (mkF m 51 #[iv p0] [(.int (35 : Int32)), (.int p0)])) t → Steps p.tables e below (s₁.setTop (entryFrame m #[(.int p0)] 1)) t := by
        intro t kt
        refine G74 _ ?_
        refine XS.icmpNo X0.here hx rfl (hb hby d14_45) rfl (feq (own_i5 hc3_2 (by decide))).1 ?_
        refine XS.iloadN X0.here hx rfl (hb hby d14_48) rfl ?_
        refine XS.bipush X0.here hx rfl (hb hby d14_49) ?_
        exact kt
       have G76 : ∀ t, Steps p.tables e below (s₁.setTop (mkF m 57 #[iv p0] [(.int (36 : Int32)), (.int p0)])) t → Steps p.tables e below (s₁.setTop (entryFrame m #[(.int p0)] 1)) t := by
        intro t kt
        refine G75 _ ?_
        refine XS.icmpNo X0.here hx rfl (hb hby d14_51) rfl (feq (own_i5 hc3_2 (by decide))).1 ?_
        refine XS.iloadN X0.here hx rfl (hb hby d14_54) rfl ?_
        refine XS.bipush X0.here hx rfl (hb hby d14_55) ?_
        exact kt
       have G77 : ∀ t, Steps p.tables e below (s₁.setTop (mkF m 63 #[iv p0] [(.int (37 : Int32)), (.int p0)])) t → Steps p.tables e below (s₁.setTop (entryFrame m #[(.int p0)] 1)) t := by
        intro t kt
        refine G76 _ ?_
        refine XS.icmpNo X0.here hx rfl (hb hby d14_57) rfl (feq (own_i5 hc3_2 (by decide))).1 ?_
        refine XS.iloadN X0.here hx rfl (hb hby d14_60) rfl ?_
        show Steps p.tables e below (s₁.setTop (mkF m 61 #[iv p0] [(.int p0)])) _
        refine XS.bipush X0.here hx rfl (hb hby d14_61) ?_
        exact kt
       have G78 : ∀ t, Steps p.tables e below (s₁.setTop (mkF m 69 #[iv p0] [(.int (38 : Int32)), (.int p0)])) t → Steps p.tables e below (s₁.setTop (entryFrame m #[(.int p0)] 1)) t := by
        intro t kt
        refine G77 _ ?_
        refine XS.icmpNo X0.here hx rfl (hb hby d14_63) rfl (feq (own_i5 hc3_2 (by decide))).1 ?_
        refine XS.iloadN X0.here hx rfl (hb hby d14_66) rfl ?_
        refine XS.bipush X0.here hx rfl (hb hby d14_67) ?_
        exact kt
       have G79 : ∀ t, Steps p.tables e below (s₁.setTop (mkF m 75 #[iv p0] [(.int (39 : Int32)), (.int p0)])) t → Steps p.tables e below (s₁.setTop (entryFrame m #[(.int p0)] 1)) t := by
        intro t kt
        refine G78 _ ?_
        refine XS.icmpNo X0.here hx rfl (hb hby d14_69) rfl (feq (own_i5 hc3_2 (by decide))).1 ?_
        refine XS.iloadN X0.here hx rfl (hb hby d14_72) rfl ?_
        refine XS.bipush X0.here hx rfl (hb hby d14_73) ?_
        exact kt
       have G80 : ∀ t, Steps p.tables e below (s₁.setTop (mkF m 81 #[iv p0] [(.int (42 : Int32)), (.int p0)])) t → Steps p.tables e below (s₁.setTop (entryFrame m #[(.int p0)] 1)) t := by
        intro t kt
        refine G79 _ ?_
        refine XS.icmpNo X0.here hx rfl (hb hby d14_75) rfl (feq (own_i5 hc3_2 (by decide))).1 ?_
        refine XS.iloadN X0.here hx rfl (hb hby d14_78) rfl ?_
        refine XS.bipush X0.here hx rfl (hb hby d14_79) ?_
        exact kt
       have G81 : ∀ t, Steps p.tables e below (s₁.setTop (mkF m 87 #[iv p0] [(.int (43 : Int32)), (.int p0)])) t → Steps p.tables e below (s₁.setTop (entryFrame m #[(.int p0)] 1)) t := by
        intro t kt
        refine G80 _ ?_
        refine XS.icmpNo X0.here hx rfl (hb hby d14_81) rfl (feq (own_i5 hc3_2 (by decide))).1 ?_
        refine XS.iloadN X0.here hx rfl (hb hby d14_84) rfl ?_
        refine XS.bipush X0.here hx rfl (hb hby d14_85) ?_
        exact kt
       have G82 : ∀ t, Steps p.tables e below (s₁.setTop (mkF m 93 #[iv p0] [(.int (45 : Int32)), (.int p0)])) t → Steps p.tables e below (s₁.setTop (entryFrame m #[(.int p0)] 1)) t := by
        intro t kt
        refine G81 _ ?_
        refine XS.icmpNo X0.here hx rfl (hb hby d14_87) rfl (feq (own_i5 hc3_2 (by decide))).1 ?_
        refine XS.iloadN X0.here hx rfl (hb hby d14_90) rfl ?_
        refine XS.bipush X0.here hx rfl (hb hby d14_91) ?_
        exact kt
       have G83 : ∀ t, Steps p.tables e below (s₁.setTop (mkF m 99 #[iv p0] [(.int (46 : Int32)), (.int p0)])) t → Steps p.tables e below (s₁.setTop (entryFrame m #[(.int p0)] 1)) t := by
        intro t kt
        refine G82 _ ?_
        refine XS.icmpNo X0.here hx rfl (hb hby d14_93) rfl (feq (own_i5 hc3_2 (by decide))).1 ?_
        refine XS.iloadN X0.here hx rfl (hb hby d14_96) rfl ?_
        refine XS.bipush X0.here hx rfl (hb hby d14_97) ?_
        exact kt
       have G84 : ∀ t, Steps p.tables e below (s₁.setTop (mkF m 105 #[iv p0] [(.int (94 : Int32)), (.int p0)])) t → Steps p.tables e below (s₁.setTop (entryFrame m #[(.int p0)] 1)) t := by
        intro t kt
        refine G83 _ ?_
        refine XS.icmpNo X0.here hx rfl (hb hby d14_99) rfl (feq (own_i5 hc3_2 (by decide))).1 ?_
        refine XS.iloadN X0.here hx rfl (hb hby d14_102) rfl ?_
        refine XS.bipush X0.here hx rfl (hb hby d14_103) ?_
        exact kt
       have G85 : ∀ t, Steps p.tables e below (s₁.setTop (mkF m 111 #[iv p0] [(.int (95 : Int32)), (.int p0)])) t → Steps p.tables e below (s₁.setTop (entryFrame m #[(.int p0)] 1)) t := by
        intro t kt
        refine G84 _ ?_
        refine XS.icmpNo X0.here hx rfl (hb hby d14_105) rfl (feq (own_i5 hc31_53 (by decide))).1 ?_
        refine XS.iloadN X0.here hx rfl (hb hby d14_108) rfl ?_
        refine XS.bipush X0.here hx rfl (hb hby d14_109) ?_
        exact kt
       have G86 : ∀ t, Steps p.tables e below (s₁.setTop (mkF m 117 #[iv p0] [(.int (96 : Int32)), (.int p0)])) t → Steps p.tables e below (s₁.setTop (entryFrame m #[(.int p0)] 1)) t := by
        intro t kt
        refine G85 _ ?_
        refine XS.icmpNo X0.here hx rfl (hb hby d14_111) rfl (feq (own_i5 hc31_53 (by decide))).1 ?_
        refine XS.iloadN X0.here hx rfl (hb hby d14_114) rfl ?_
        refine XS.bipush X0.here hx rfl (hb hby d14_115) ?_
        exact kt
       have G87 : ∀ t, Steps p.tables e below (s₁.setTop (mkF m 123 #[iv p0] [(.int (124 : Int32)), (.int p0)])) t → Steps p.tables e below (s₁.setTop (entryFrame m #[(.int p0)] 1)) t := by
        intro t kt
        refine G86 _ ?_
        refine XS.icmpNo X0.here hx rfl (hb hby d14_117) rfl (feq (own_i5 hc31_53 (by decide))).1 ?_
        refine XS.iloadN X0.here hx rfl (hb hby d14_120) rfl ?_
        show Steps p.tables e below (s₁.setTop (mkF m 121 #[iv p0] [(.int p0)])) _
        refine XS.bipush X0.here hx rfl (hb hby d14_121) ?_
        exact kt
       by_cases hc123_88 : p0 = (124 : Int32)
       ·skip
        obtain ⟨fs, hr, hrun, hended, hW, hsame⟩ := X0.leave (v := some (.int (1 : Int32))) (fun h => by rw [Bd.returns] at h; cases h)
        refine ⟨_, _, G87 _ ?_, hrun, hended, _, _, rfl, ?_, ⟨_, rfl⟩, hW, hsame.mono (by decide) (by decide)⟩
        ·skip
         refine XS.icmpYes X0.here hx rfl (pc0 := 123) (pc' := 132) rfl (hb hby d14_123) rfl (teq hc123_88).1 (by decide) (by decide) ?_
         refine XS.iconst X0.here hx rfl (hb hby d14_132) ?_
         refine XS.goto X0.here hx rfl (pc0 := 133) (pc' := 137) rfl (hb hby d14_133) (by decide) (by decide) ?_
         exact retN X0 hx (t := .boolean) Bd.returns (by simp) (hb hby d14_137) hr
        ·show Q14 Z p0 h0 n0 _ s₁.heap _
         rw [e0]
         exact ⟨by rw [fisT, if_neg hc3_2, if_pos hc9_31, if_neg hc17_33, if_pos hc23_51, if_neg hc31_53, if_pos hc37_73, if_pos hc123_88], N0, rfl⟩
       ·skip
        have G89 : ∀ t, Steps p.tables e below (s₁.setTop (mkF m 129 #[iv p0] [(.int (126 : Int32)), (.int p0)])) t → Steps p.tables e below (s₁.setTop (entryFrame m #[(.int p0)] 1)) t := by
         intro t kt
         refine G87 _ ?_
         refine XS.icmpNo X0.here hx rfl (hb hby d14_123) rfl (feq hc123_88).1 ?_
         refine XS.iloadN X0.here hx rfl (hb hby d14_126) rfl ?_
         refine XS.bipush X0.here hx rfl (hb hby d14_127) ?_
         exact kt
        by_cases hc129_90 : p0 = (126 : Int32)
        ·skip
         obtain ⟨fs, hr, hrun, hended, hW, hsame⟩ := X0.leave (v := some (.int (1 : Int32))) (fun h => by rw [Bd.returns] at h; cases h)
         refine ⟨_, _, G89 _ ?_, hrun, hended, _, _, rfl, ?_, ⟨_, rfl⟩, hW, hsame.mono (by decide) (by decide)⟩
         ·skip
          refine XS.icmpNo X0.here hx rfl (hb hby d14_129) rfl (teq hc129_90).2 ?_
          refine XS.iconst X0.here hx rfl (hb hby d14_132) ?_
          refine XS.goto X0.here hx rfl (pc0 := 133) (pc' := 137) rfl (hb hby d14_133) (by decide) (by decide) ?_
          exact retN X0 hx (t := .boolean) Bd.returns (by simp) (hb hby d14_137) hr
         ·show Q14 Z p0 h0 n0 _ s₁.heap _
          rw [e0]
          exact ⟨by rw [fisT, if_neg hc3_2, if_pos hc9_31, if_neg hc17_33, if_pos hc23_51, if_neg hc31_53, if_pos hc37_73, if_neg hc123_88, if_pos hc129_90], N0, rfl⟩
        ·skip
         obtain ⟨fs, hr, hrun, hended, hW, hsame⟩ := X0.leave (v := some (.int (0 : Int32))) (fun h => by rw [Bd.returns] at h; cases h)
         refine ⟨_, _, G89 _ ?_, hrun, hended, _, _, rfl, ?_, ⟨_, rfl⟩, hW, hsame.mono (by decide) (by decide)⟩
         ·skip
          refine XS.icmpYes X0.here hx rfl (pc0 := 129) (pc' := 136) rfl (hb hby d14_129) rfl (feq hc129_90).2 (by decide) (by decide) ?_
          refine XS.iconst X0.here hx rfl (hb hby d14_136) ?_
          exact retN X0 hx (t := .boolean) Bd.returns (by simp) (hb hby d14_137) hr
         ·show Q14 Z p0 h0 n0 _ s₁.heap _
          rw [e0]
          exact ⟨by rw [fisT, if_neg hc3_2, if_pos hc9_31, if_neg hc17_33, if_pos hc23_51, if_neg hc31_53, if_pos hc37_73, if_neg hc123_88, if_neg hc129_90], N0, rfl⟩
      ·skip
       obtain ⟨fs, hr, hrun, hended, hW, hsame⟩ := X0.leave (v := some (.int (1 : Int32))) (fun h => by rw [Bd.returns] at h; cases h)
       refine ⟨_, _, G72 _ ?_, hrun, hended, _, _, rfl, ?_, ⟨_, rfl⟩, hW, hsame.mono (by decide) (by decide)⟩
       ·skip
        refine XS.icmpNo X0.here hx rfl (hb hby d14_37) rfl (flt hc37_73).2.2.1 ?_
        refine XS.iconst X0.here hx rfl (hb hby d14_40) ?_
        exact retN X0 hx (t := .boolean) Bd.returns (by simp) (hb hby d14_41) hr
       ·show Q14 Z p0 h0 n0 _ s₁.heap _
        rw [e0]
        exact ⟨by rw [fisT, if_neg hc3_2, if_pos hc9_31, if_neg hc17_33, if_pos hc23_51, if_neg hc31_53, if_neg hc37_73], N0, rfl⟩
    ·skip
     obtain ⟨fs, hr, hrun, hended, hW, hsame⟩ := X0.leave (v := some (.int (1 : Int32))) (fun h => by rw [Bd.returns] at h; cases h)
     refine ⟨_, _, G50 _ ?_, hrun, hended, _, _, rfl, ?_, ⟨_, rfl⟩, hW, hsame.mono (by decide) (by decide)⟩
     ·skip
      refine XS.icmpNo X0.here hx rfl (hb hby d14_23) rfl (flt hc23_51).2.2.1 ?_
      refine XS.iconst X0.here hx rfl (hb hby d14_26) ?_
      exact retN X0 hx (t := .boolean) Bd.returns (by simp) (hb hby d14_27) hr
     ·show Q14 Z p0 h0 n0 _ s₁.heap _
      rw [e0]
      exact ⟨by rw [fisT, if_neg hc3_2, if_pos hc9_31, if_neg hc17_33, if_neg hc23_51], N0, rfl⟩
  ·skip
   obtain ⟨fs, hr, hrun, hended, hW, hsame⟩ := X0.leave (v := some (.int (1 : Int32))) (fun h => by rw [Bd.returns] at h; cases h)
   refine ⟨_, _, G30 _ ?_, hrun, hended, _, _, rfl, ?_, ⟨_, rfl⟩, hW, hsame.mono (by decide) (by decide)⟩
   ·skip
    refine XS.icmpNo X0.here hx rfl (hb hby d14_9) rfl (flt hc9_31).2.2.1 ?_
    refine XS.iconst X0.here hx rfl (hb hby d14_12) ?_
    exact retN X0 hx (t := .boolean) Bd.returns (by simp) (hb hby d14_13) hr
   ·show Q14 Z p0 h0 n0 _ s₁.heap _
    rw [e0]
    exact ⟨by rw [fisT, if_neg hc3_2, if_neg hc9_31], N0, rfl⟩
theorem own_draw (p : Int32) : 0 ≤ (fdraw p).toInt ∧ (fdraw p).toInt ≤ 65535 := by
  rw [fdraw]
  split <;> exact own_narc2 _
set_option maxRecDepth 65536 in
set_option maxHeartbeats 40000000 in
theorem own_isT (k : Int32) : (((48 ≤ k.toInt ∧ k.toInt ≤ 57) ∨ (65 ≤ k.toInt ∧ k.toInt ≤ 90) ∨ (97 ≤ k.toInt ∧ k.toInt ≤ 122) ∨ k.toInt = 33 ∨ k.toInt = 35 ∨ k.toInt = 36 ∨ k.toInt = 37 ∨ k.toInt = 38 ∨ k.toInt = 39 ∨ k.toInt = 42 ∨ k.toInt = 43 ∨ k.toInt = 45 ∨ k.toInt = 46 ∨ k.toInt = 94 ∨ k.toInt = 95 ∨ k.toInt = 96 ∨ k.toInt = 124 ∨ k.toInt = 126) → fisT k = 1) ∧ (¬ ((48 ≤ k.toInt ∧ k.toInt ≤ 57) ∨ (65 ≤ k.toInt ∧ k.toInt ≤ 90) ∨ (97 ≤ k.toInt ∧ k.toInt ≤ 122) ∨ k.toInt = 33 ∨ k.toInt = 35 ∨ k.toInt = 36 ∨ k.toInt = 37 ∨ k.toInt = 38 ∨ k.toInt = 39 ∨ k.toInt = 42 ∨ k.toInt = 43 ∨ k.toInt = 45 ∨ k.toInt = 46 ∨ k.toInt = 94 ∨ k.toInt = 95 ∨ k.toInt = 96 ∨ k.toInt = 124 ∨ k.toInt = 126) → fisT k = 0) := by
  have e33 : (33 : Int32).toInt = 33 := by decide
  have e35 : (35 : Int32).toInt = 35 := by decide
  have e36 : (36 : Int32).toInt = 36 := by decide
  have e37 : (37 : Int32).toInt = 37 := by decide
  have e38 : (38 : Int32).toInt = 38 := by decide
  have e39 : (39 : Int32).toInt = 39 := by decide
  have e42 : (42 : Int32).toInt = 42 := by decide
  have e43 : (43 : Int32).toInt = 43 := by decide
  have e45 : (45 : Int32).toInt = 45 := by decide
  have e46 : (46 : Int32).toInt = 46 := by decide
  have e48 : (48 : Int32).toInt = 48 := by decide
  have e57 : (57 : Int32).toInt = 57 := by decide
  have e65 : (65 : Int32).toInt = 65 := by decide
  have e90 : (90 : Int32).toInt = 90 := by decide
  have e94 : (94 : Int32).toInt = 94 := by decide
  have e95 : (95 : Int32).toInt = 95 := by decide
  have e96 : (96 : Int32).toInt = 96 := by decide
  have e97 : (97 : Int32).toInt = 97 := by decide
  have e122 : (122 : Int32).toInt = 122 := by decide
  have e124 : (124 : Int32).toInt = 124 := by decide
  have e126 : (126 : Int32).toInt = 126 := by decide
  have q33 : (k = (33 : Int32)) ↔ k.toInt = 33 := by rw [← Int32.toInt_inj, e33]
  have q35 : (k = (35 : Int32)) ↔ k.toInt = 35 := by rw [← Int32.toInt_inj, e35]
  have q36 : (k = (36 : Int32)) ↔ k.toInt = 36 := by rw [← Int32.toInt_inj, e36]
  have q37 : (k = (37 : Int32)) ↔ k.toInt = 37 := by rw [← Int32.toInt_inj, e37]
  have q38 : (k = (38 : Int32)) ↔ k.toInt = 38 := by rw [← Int32.toInt_inj, e38]
  have q39 : (k = (39 : Int32)) ↔ k.toInt = 39 := by rw [← Int32.toInt_inj, e39]
  have q42 : (k = (42 : Int32)) ↔ k.toInt = 42 := by rw [← Int32.toInt_inj, e42]
  have q43 : (k = (43 : Int32)) ↔ k.toInt = 43 := by rw [← Int32.toInt_inj, e43]
  have q45 : (k = (45 : Int32)) ↔ k.toInt = 45 := by rw [← Int32.toInt_inj, e45]
  have q46 : (k = (46 : Int32)) ↔ k.toInt = 46 := by rw [← Int32.toInt_inj, e46]
  have q48 : (k = (48 : Int32)) ↔ k.toInt = 48 := by rw [← Int32.toInt_inj, e48]
  have q57 : (k = (57 : Int32)) ↔ k.toInt = 57 := by rw [← Int32.toInt_inj, e57]
  have q65 : (k = (65 : Int32)) ↔ k.toInt = 65 := by rw [← Int32.toInt_inj, e65]
  have q90 : (k = (90 : Int32)) ↔ k.toInt = 90 := by rw [← Int32.toInt_inj, e90]
  have q94 : (k = (94 : Int32)) ↔ k.toInt = 94 := by rw [← Int32.toInt_inj, e94]
  have q95 : (k = (95 : Int32)) ↔ k.toInt = 95 := by rw [← Int32.toInt_inj, e95]
  have q96 : (k = (96 : Int32)) ↔ k.toInt = 96 := by rw [← Int32.toInt_inj, e96]
  have q97 : (k = (97 : Int32)) ↔ k.toInt = 97 := by rw [← Int32.toInt_inj, e97]
  have q122 : (k = (122 : Int32)) ↔ k.toInt = 122 := by rw [← Int32.toInt_inj, e122]
  have q124 : (k = (124 : Int32)) ↔ k.toInt = 124 := by rw [← Int32.toInt_inj, e124]
  have q126 : (k = (126 : Int32)) ↔ k.toInt = 126 := by rw [← Int32.toInt_inj, e126]
  rw [fisT]
  simp only [Int32.lt_iff_toInt_lt, e33, e35, e36, e37, e38, e39, e42, e43, e45, e46, e48, e57, e65, e90, e94, e95, e96, e97, e122, e124, e126, q33, q35, q36, q37, q38, q39, q42, q43, q45, q46, q48, q57, q65, q90, q94, q95, q96, q97, q122, q124, q126]
  refine ⟨fun h => ?_, fun h => ?_⟩
  all_goals (repeat' split)
  all_goals first | rfl | (exfalso; omega)
theorem own_big (k : Int32) (h : ¬ (k < (128 : Int32))) : fisT k = 0 := by
  have e : (128 : Int32).toInt = 128 := by decide
  rw [Int32.lt_iff_toInt_lt, e] at h
  exact (own_isT k).2 (by omega)
def own_tok : List Int32 → Int32
  | [] => 1
  | k :: r => if fisT k = (0 : Int32) then 0 else own_tok r
theorem d8_0 : decode prog_13_method_12_code 0 = .ok (.iload_n 1, 1) := by decide +kernel
theorem d8_1 : decode prog_13_method_12_code 1 = .ok (.iload_n 2, 1) := by decide +kernel
theorem d8_2 : decode prog_13_method_12_code 2 = .ok (.if_icmp .lt 5, 3) := by decide +kernel
theorem d8_7 : decode prog_13_method_12_code 7 = .ok (.iload_n 1, 1) := by decide +kernel
theorem d8_8 : decode prog_13_method_12_code 8 = .ok (.istore_n 3, 1) := by decide +kernel
theorem d8_9 : decode prog_13_method_12_code 9 = .ok (.iload_n 3, 1) := by decide +kernel
theorem d8_10 : decode prog_13_method_12_code 10 = .ok (.iload_n 2, 1) := by decide +kernel
theorem d8_11 : decode prog_13_method_12_code 11 = .ok (.if_icmp .ge 36, 3) := by decide +kernel
theorem d8_14 : decode prog_13_method_12_code 14 = .ok (.aload_n 0, 1) := by decide +kernel
theorem d8_15 : decode prog_13_method_12_code 15 = .ok (.iload_n 3, 1) := by decide +kernel
theorem d8_16 : decode prog_13_method_12_code 16 = .ok (.invokevirtual 144, 3) := by decide +kernel
theorem pd_13 : parseMethodDescriptor "(I)C" = some ⟨[.int], some .char⟩ := by decide +kernel
theorem d8_19 : decode prog_13_method_12_code 19 = .ok (.istore 4, 2) := by decide +kernel
theorem d8_21 : decode prog_13_method_12_code 21 = .ok (.iload 4, 2) := by decide +kernel
theorem d8_23 : decode prog_13_method_12_code 23 = .ok (.getstatic 187, 3) := by decide +kernel
theorem d8_26 : decode prog_13_method_12_code 26 = .ok (.arraylength, 1) := by decide +kernel
theorem d8_27 : decode prog_13_method_12_code 27 = .ok (.if_icmp .ge 12, 3) := by decide +kernel
theorem d8_30 : decode prog_13_method_12_code 30 = .ok (.getstatic 187, 3) := by decide +kernel
theorem d8_33 : decode prog_13_method_12_code 33 = .ok (.iload 4, 2) := by decide +kernel
theorem d8_35 : decode prog_13_method_12_code 35 = .ok (.baload, 1) := by decide +kernel
theorem d8_36 : decode prog_13_method_12_code 36 = .ok (.ifCond .ne 5, 3) := by decide +kernel
theorem d8_39 : decode prog_13_method_12_code 39 = .ok (.iconst 0, 1) := by decide +kernel
theorem d8_40 : decode prog_13_method_12_code 40 = .ok (.ireturn, 1) := by decide +kernel
theorem d8_41 : decode prog_13_method_12_code 41 = .ok (.iinc 3 1, 3) := by decide +kernel
theorem d8_44 : decode prog_13_method_12_code 44 = .ok (.goto (-35), 3) := by decide +kernel
theorem d8_47 : decode prog_13_method_12_code 47 = .ok (.iconst 1, 1) := by decide +kernel
theorem d8_48 : decode prog_13_method_12_code 48 = .ok (.ireturn, 1) := by decide +kernel
def QrmTokL01 (Z : State) (r0 : Addr) (c0 c1 c2 : Int32) (ta : Addr) (kb : ClassId) (tt : Addr) (ct : Cell) (cst : Int32) (fv : Value) (h0 : Heap) (n0 : Nat) (v : Option Value) (h : Heap) (L : List Loc) : Prop := v = some (.int (own_tok [c0])) ∧ Fr n0 L ∧ h = h0
theorem ef_rmTokL01 (m : MethodId) (x0 : Addr) (x1 : Int32) (x2 : Int32) : entryFrame m #[(.ref x0), (.int x1), (.int x2)] 5 = mkF m 0 #[.val (.ref x0), .val (.int x1), .val (.int x2), .unset, .unset] [] := by first | (simp [entryFrame, mkF, argsToLocals, Value.category]; done) | rfl
theorem pnc_com_example_wary_bearer_warybearer_http_Http1Reader : plainName "com/example/wary_bearer/warybearer/http/Http1Reader" = true := by first | (simp [plainName, overriddenIn]; done) | decide +kernel
set_option maxRecDepth 65536 in
set_option maxHeartbeats 40000000 in
theorem rmTokL01 (l : Launch) (Z : State) (a0 : Array Value) (hw : ∀ d ∈ tables_1, d.before a0 Z = true) (ws : List Jvm.Cond) (r0 : Addr) (c0 c1 c2 : Int32) (ta : Addr) (kb : ClassId) (tt : Addr) (ct : Cell) (cst : Int32) (fv : Value) (h0 : Heap) (n0 : Nat) (Z0 : n0 ≤ h0.size) (E0 : Exa Z h0 r0 "java/lang/String") (Fc : Fld Z h0 r0 "java/lang/String" "coder" "B" (.int (0 : Int32))) (Fv : Fld Z h0 r0 "java/lang/String" "value" "[B" (.ref ta)) (V0 : Arv Z h0 ta kb .byte (3 : Int32) [(.int (nar .byte (c0.toInt8.toInt32))), (.int (nar .byte (c1.toInt8.toInt32))), (.int (nar .byte (c2.toInt8.toInt32)))] (.int (0 : Int32))) (O0 : Old Z n0 h0) (hb0 : 0 ≤ c0.toInt ∧ c0.toInt ≤ 65535) (hb1 : 0 ≤ c1.toInt ∧ c1.toInt ≤ 65535) (hb2 : 0 ≤ c2.toInt ∧ c2.toInt ≤ 65535) (hl0 : ¬ ((255 : Int32) < c0)) (hl1 : ¬ ((255 : Int32) < c1)) (hl2 : ¬ ((255 : Int32) < c2)) (TS : Sta Z Z.heap "com/example/wary_bearer/warybearer/http/Http1Reader" "TCHAR" "[Z" (.ref tt)) (TA : Arr Z Z.heap tt ct .boolean) (TS2 : ct.slots.size = (128 : Int32).toNatClampNeg) (TV : ∀ j : Int32, ¬ (j < (0 : Int32)) → j < (128 : Int32) → ct.slots[j.toNatClampNeg]? = some (.int (fisT j))) (SS : Sts Z cst fv) :
  MetFree l (⟨"com/example/wary_bearer/warybearer/http/Http1Reader", "isToken", "(Ljava/lang/String;II)Z"⟩ : MethodName) (head1 (Jvm.Cond.code (⟨"com/example/wary_bearer/warybearer/http/Http1Reader", "isToken", "(Ljava/lang/String;II)Z"⟩ : MethodName) prog_13_method_12_code 5 (some .boolean) :: ws) ({ frames := 5, cells := 0, slots := 0, locals := 66 } : Room)) (fun a U => a = #[(.ref r0), (.int (0 : Int32)), (.int (1 : Int32))] ∧ Z.Warmed39 U.vm ∧ U.heap = h0) (fun _ _ _ _ _ => True) (fun _ U o U' => ∃ v L, o = .returned v ∧ QrmTokL01 Z r0 c0 c1 c2 ta kb tt ct cst fv h0 n0 v U'.heap L ∧ FrameEnd U o U' L ({ frames := 5, cells := 0, slots := 0, locals := 66 } : Room).cells ({ frames := 5, cells := 0, slots := 0, locals := 66 } : Room).slots) := by
 refine MetFree.of_bodySF (plainFor_of_name pnc_com_example_wary_bearer_warybearer_http_Http1Reader) hisR ?_
 intro p e s m args below meth c s₁ Bd hml0 hP hK
 obtain ⟨rfl, hZ, hh⟩ := hP
 have hx := Bd.exec
 have hby := Bd.bytes
 have hml : c.maxLocals = 5 := hml0
 have hown : s.vm.findClass "com/example/wary_bearer/warybearer/http/Http1Reader" = some m.cls := findClass_of_methodNamed Bd.named
 have hnm := (name_of_methodNamed Bd.named Bd.method).1
 have X0 : Stand p l e ({ frames := 5, cells := 0, slots := 0, locals := 66 } : Room) s m #[(.ref r0), (.int (0 : Int32)), (.int (1 : Int32))] below meth c s₁ [] 0 0 := Stand.of_body Bd
 have e0 : s₁.heap = h0 := by rw [← hh, Bd.state]; rfl
 have N0 := Fr.nil n0
 have kp0 : Keep h0 h0 [] := Keep.refl _ _
 have G0 : ∀ t, Steps p.tables e below (s₁.setTop (mkF m 0 #[rv r0, iv 0, iv 1, .unset, .unset] [])) t → Steps p.tables e below (s₁.setTop (entryFrame m #[(.ref r0), (.int (0 : Int32)), (.int (1 : Int32))] 5)) t := fun t k => castTop (ef_rmTokL01 m r0 (0 : Int32) (1 : Int32)) k
 have G1 : ∀ t, Steps p.tables e below (s₁.setTop (mkF m 2 #[rv r0, iv 0, iv 1, .unset, .unset] [(.int (1 : Int32)), (.int (0 : Int32))])) t → Steps p.tables e below (s₁.setTop (entryFrame m #[(.ref r0), (.int (0 : Int32)), (.int (1 : Int32))] 5)) t := by
  intro t kt
  refine G0 _ ?_
  refine XS.iloadN X0.here hx rfl (hb hby d8_0) rfl ?_
  refine XS.iloadN X0.here hx rfl (hb hby d8_1) rfl ?_
  exact kt
 have G2 : ∀ t, Steps p.tables e below (s₁.setTop (mkF m 11 #[rv r0, iv 0, iv 1, iv 0, .unset] [(.int (1 : Int32)), (.int (0 : Int32))])) t → Steps p.tables e below (s₁.setTop (entryFrame m #[(.ref r0), (.int (0 : Int32)), (.int (1 : Int32))] 5)) t := by
  intro t kt
  refine G1 _ ?_
  refine XS.icmpYes X0.here hx rfl (pc0 := 2) (pc' := 7) rfl (hb hby d8_2) rfl (tlt (by decide)).1 (by decide) (by decide) ?_
  refine XS.iloadN X0.here hx rfl (hb hby d8_7) rfl ?_
  refine XS.istoreN X0.here hx rfl (hb hby d8_8) rfl (l' := #[rv r0, iv 0, iv 1, iv 0, .unset]) rfl ?_
  refine XS.iloadN X0.here hx rfl (hb hby d8_9) rfl ?_
  refine XS.iloadN X0.here hx rfl (hb hby d8_10) rfl ?_
  exact kt
 obtain ⟨cq3, kq3, q3a, q3b, q3c⟩ := isOf hZ e0 E0
 obtain ⟨_, _, ⟨T3, L3, k3, n3⟩, -, X3, ⟨Lc3, hQ3, l3, y3, z3⟩, st3⟩ := X0.virtualBack hx (y := (⟨"java/lang/String", "charAt", "(I)C"⟩ : MethodName)) (z := (⟨"java/lang/String", "charAt", "(I)C"⟩ : MethodName)) hown (mvT hZ (hw _ (List.mem_of_getElem? (i := 62) rfl))) (mvT hZ (hw _ (List.mem_of_getElem? (i := 63) rfl))) (notFace_of_selects (args := #[]) (mvT hZ (hw _ (List.mem_of_getElem? (i := 65) rfl)))) (mvT hZ (hw _ (List.mem_of_getElem? (i := 65) rfl))) (mvT hZ (hw _ (List.mem_of_getElem? (i := 64) rfl))) (by decide) (backOf (W := 0) (rmChL l Z a0 hw [] r0 (0 : Int32) ta kb (3 : Int32) [(.int (nar .byte (c0.toInt8.toInt32))), (.int (nar .byte (c1.toInt8.toInt32))), (.int (nar .byte (c2.toInt8.toInt32)))] (nar .byte (c0.toInt8.toInt32)) c0 cst fv h0 n0 Z0 E0 Fc Fv V0 O0 (by decide) (by decide) rfl (own_lat c0 hb0 hl0) SS) hZ (hw _ (List.mem_of_getElem? (i := 66) rfl)) (hw _ (List.mem_of_getElem? (i := 8) rfl)) (by decide) (by decide)) q3a q3c (g := (mkF m 16 #[rv r0, iv 0, iv 1, iv 0, .unset] [(.int (0 : Int32)), (.ref r0)])) rfl (by rw [hml]; rfl) (Steps.refl _) (argsL := [(.int (0 : Int32))]) (rest := []) (lenOf pd_13 rfl) rfl (by show 2 * 0 + _ ≤ _; exact Nat.le_of_eq rfl) (hb hby d8_16) (fun _ _ => ⟨rfl, e0, (by decide : 0 + 0 ≤ _), (by decide : 0 + 0 ≤ _)⟩)
 dsimp only [Pt.U, Pt.locs, Pt.cells, Pt.slots] at X3 l3 y3 z3 st3 hQ3
 subst l3 y3 z3
 obtain ⟨rfl, N3q, eh3⟩ := hQ3
 have N3 := Fr.app N0 N3q
 obtain ⟨T4, X4, e4, st4⟩ := getS2 X3 hx hZ hown (host := "") (Or.inl (hw _ (List.mem_of_getElem? (i := 89) rfl))) Via.refl eh3 (TS.ext O0.2) (g := (mkF m 23 #[rv r0, iv 0, iv 1, iv 0, iv c0] [(.int c0)])) rfl (hb hby d8_23)
 have G5 : ∀ t, Steps p.tables e below (T4.setTop (mkF m 27 #[rv r0, iv 0, iv 1, iv 0, iv c0] [(.int (128 : Int32)), (.int c0)])) t → Steps p.tables e below (s₁.setTop (entryFrame m #[(.ref r0), (.int (0 : Int32)), (.int (1 : Int32))] 5)) t := by
  intro t kt
  refine G2 _ ?_
  refine XS.icmpNo X0.here hx rfl (hb hby d8_11) rfl (tlt (by decide)).2.1 ?_
  refine XS.aloadN X0.here hx rfl (hb hby d8_14) rfl rfl ?_
  refine XS.iloadN X0.here hx rfl (hb hby d8_15) rfl ?_
  refine st3.trans ?_
  refine XS.istore X3.here hx rfl (hb hby d8_19) rfl (l' := #[rv r0, iv 0, iv 1, iv 0, iv c0]) rfl ?_
  refine XS.iload X3.here hx rfl (hb hby d8_21) rfl ?_
  refine st4 _ ?_
  refine X4.arraylength hx (by rw [e4]; exact (TA.ext O0.2).1) (State.isArrayOf_alike hZ.alike (TA.ext O0.2).2.1) (g := (mkF m 26 #[rv r0, iv 0, iv 1, iv 0, iv c0] [(.ref tt), (.int c0)])) rfl rfl (hb hby d8_26) _ ?_
  rw [len_of TS2 (by decide)]
  exact kt
 by_cases hc27_6 : c0 < (128 : Int32)
 ·skip
  obtain ⟨T7, X7, e7, st7⟩ := getS2 X4 hx hZ hown (host := "") (Or.inl (hw _ (List.mem_of_getElem? (i := 89) rfl))) Via.refl e4 (TS.ext O0.2) (g := (mkF m 30 #[rv r0, iv 0, iv 1, iv 0, iv c0] [])) rfl (hb hby d8_30)
  have hn8 : ¬ (c0 < (0 : Int32)) := by rw [Int32.lt_iff_toInt_lt]; exact Int.not_lt.mpr hb0.1
  have hin8 : ¬ (c0 < 0 ∨ ct.slots.size ≤ (c0).toNatClampNeg) := inb_of TS2 ⟨hn8, hc27_6⟩
  have hat8 := TV c0 hn8 hc27_6
  have G9 : ∀ t, Steps p.tables e below (T7.setTop (mkF m 36 #[rv r0, iv 0, iv 1, iv 0, iv c0] [(.int (fisT c0))])) t → Steps p.tables e below (s₁.setTop (entryFrame m #[(.ref r0), (.int (0 : Int32)), (.int (1 : Int32))] 5)) t := by
   intro t kt
   refine G5 _ ?_
   refine XS.icmpNo X4.here hx rfl (hb hby d8_27) rfl (tlt hc27_6).2.1 ?_
   refine st7 _ ?_
   refine XS.iload X7.here hx rfl (hb hby d8_33) rfl ?_
   refine X7.baloadBooleans hx (j := c0) (v := (.int (fisT c0))) (by rw [e7]; exact (TA.ext O0.2).1) (State.isArrayOf_alike hZ.alike (TA.ext O0.2).2.1) (TA.ext O0.2).2.2 hin8 hat8 (g := (mkF m 35 #[rv r0, iv 0, iv 1, iv 0, iv c0] [(.int c0), (.ref tt)])) rfl rfl (hb hby d8_35) _ ?_
   exact kt
  by_cases hc36_10 : (fisT c0) = (0 : Int32)
  ·skip
   obtain ⟨fs, hr, hrun, hended, hW, hsame⟩ := X7.leave (v := some (.int (0 : Int32))) (fun h => by rw [Bd.returns] at h; cases h)
   refine ⟨_, _, G9 _ ?_, hrun, hended, _, _, rfl, ?_, ⟨_, rfl⟩, hW, hsame.mono (by decide) (by decide)⟩
   ·skip
    refine XS.ifNo X7.here hx rfl (hb hby d8_36) rfl ((if0 _ _).trans (teq hc36_10).2) ?_
    refine XS.iconst X7.here hx rfl (hb hby d8_39) ?_
    exact retN X7 hx (t := .boolean) Bd.returns (by simp) (hb hby d8_40) hr
   ·show QrmTokL01 Z r0 c0 c1 c2 ta kb tt ct cst fv h0 n0 _ T7.heap _
    rw [e7]
    exact ⟨by rw [own_tok, if_pos hc36_10], N3, rfl⟩
  ·skip
   have G11 : ∀ t, Steps p.tables e below (T7.setTop (mkF m 11 #[rv r0, iv 0, iv 1, iv 1, iv c0] [(.int (1 : Int32)), (.int (1 : Int32))])) t → Steps p.tables e below (s₁.setTop (entryFrame m #[(.ref r0), (.int (0 : Int32)), (.int (1 : Int32))] 5)) t := by
    intro t kt
    refine G9 _ ?_
    refine XS.ifYes X7.here hx rfl (pc0 := 36) (pc' := 41) rfl (hb hby d8_36) rfl ((if0 _ _).trans (feq hc36_10).2) (by decide) (by decide) ?_
    refine XS.iinc X7.here hx rfl (hb hby d8_41) rfl (l' := #[rv r0, iv 0, iv 1, iv 1, iv c0]) rfl ?_
    refine XS.goto X7.here hx rfl (pc0 := 44) (pc' := 9) rfl (hb hby d8_44) (by decide) (by decide) ?_
    refine XS.iloadN X7.here hx rfl (hb hby d8_9) rfl ?_
    show Steps p.tables e below (T7.setTop (mkF m 10 #[rv r0, iv 0, iv 1, iv 1, iv c0] [(.int (1 : Int32))])) _
    refine XS.iloadN X7.here hx rfl (hb hby d8_10) rfl ?_
    exact kt
   obtain ⟨fs, hr, hrun, hended, hW, hsame⟩ := X7.leave (v := some (.int (1 : Int32))) (fun h => by rw [Bd.returns] at h; cases h)
   refine ⟨_, _, G11 _ ?_, hrun, hended, _, _, rfl, ?_, ⟨_, rfl⟩, hW, hsame.mono (by decide) (by decide)⟩
   ·skip
    refine XS.icmpYes X7.here hx rfl (pc0 := 11) (pc' := 47) rfl (hb hby d8_11) rfl (flt (by decide)).2.1 (by decide) (by decide) ?_
    refine XS.iconst X7.here hx rfl (hb hby d8_47) ?_
    exact retN X7 hx (t := .boolean) Bd.returns (by simp) (hb hby d8_48) hr
   ·show QrmTokL01 Z r0 c0 c1 c2 ta kb tt ct cst fv h0 n0 _ T7.heap _
    rw [e7]
    exact ⟨by rw [own_tok, if_neg hc36_10, own_tok], N3, rfl⟩
 ·skip
  obtain ⟨fs, hr, hrun, hended, hW, hsame⟩ := X4.leave (v := some (.int (0 : Int32))) (fun h => by rw [Bd.returns] at h; cases h)
  refine ⟨_, _, G5 _ ?_, hrun, hended, _, _, rfl, ?_, ⟨_, rfl⟩, hW, hsame.mono (by decide) (by decide)⟩
  ·skip
   refine XS.icmpYes X4.here hx rfl (pc0 := 27) (pc' := 39) rfl (hb hby d8_27) rfl (flt hc27_6).2.1 (by decide) (by decide) ?_
   refine XS.iconst X4.here hx rfl (hb hby d8_39) ?_
   exact retN X4 hx (t := .boolean) Bd.returns (by simp) (hb hby d8_40) hr
  ·show QrmTokL01 Z r0 c0 c1 c2 ta kb tt ct cst fv h0 n0 _ T4.heap _
   rw [e4]
   exact ⟨by rw [own_tok, if_pos (own_big c0 hc27_6)], N3, rfl⟩
def QrmTokL02 (Z : State) (r0 : Addr) (c0 c1 c2 : Int32) (ta : Addr) (kb : ClassId) (tt : Addr) (ct : Cell) (cst : Int32) (fv : Value) (h0 : Heap) (n0 : Nat) (v : Option Value) (h : Heap) (L : List Loc) : Prop := v = some (.int (own_tok [c0, c1])) ∧ Fr n0 L ∧ h = h0
theorem ef_rmTokL02 (m : MethodId) (x0 : Addr) (x1 : Int32) (x2 : Int32) : entryFrame m #[(.ref x0), (.int x1), (.int x2)] 5 = mkF m 0 #[.val (.ref x0), .val (.int x1), .val (.int x2), .unset, .unset] [] := by first | (simp [entryFrame, mkF, argsToLocals, Value.category]; done) | rfl
set_option maxRecDepth 65536 in
set_option maxHeartbeats 40000000 in
theorem rmTokL02 (l : Launch) (Z : State) (a0 : Array Value) (hw : ∀ d ∈ tables_1, d.before a0 Z = true) (ws : List Jvm.Cond) (r0 : Addr) (c0 c1 c2 : Int32) (ta : Addr) (kb : ClassId) (tt : Addr) (ct : Cell) (cst : Int32) (fv : Value) (h0 : Heap) (n0 : Nat) (Z0 : n0 ≤ h0.size) (E0 : Exa Z h0 r0 "java/lang/String") (Fc : Fld Z h0 r0 "java/lang/String" "coder" "B" (.int (0 : Int32))) (Fv : Fld Z h0 r0 "java/lang/String" "value" "[B" (.ref ta)) (V0 : Arv Z h0 ta kb .byte (3 : Int32) [(.int (nar .byte (c0.toInt8.toInt32))), (.int (nar .byte (c1.toInt8.toInt32))), (.int (nar .byte (c2.toInt8.toInt32)))] (.int (0 : Int32))) (O0 : Old Z n0 h0) (hb0 : 0 ≤ c0.toInt ∧ c0.toInt ≤ 65535) (hb1 : 0 ≤ c1.toInt ∧ c1.toInt ≤ 65535) (hb2 : 0 ≤ c2.toInt ∧ c2.toInt ≤ 65535) (hl0 : ¬ ((255 : Int32) < c0)) (hl1 : ¬ ((255 : Int32) < c1)) (hl2 : ¬ ((255 : Int32) < c2)) (TS : Sta Z Z.heap "com/example/wary_bearer/warybearer/http/Http1Reader" "TCHAR" "[Z" (.ref tt)) (TA : Arr Z Z.heap tt ct .boolean) (TS2 : ct.slots.size = (128 : Int32).toNatClampNeg) (TV : ∀ j : Int32, ¬ (j < (0 : Int32)) → j < (128 : Int32) → ct.slots[j.toNatClampNeg]? = some (.int (fisT j))) (SS : Sts Z cst fv) :
  MetFree l (⟨"com/example/wary_bearer/warybearer/http/Http1Reader", "isToken", "(Ljava/lang/String;II)Z"⟩ : MethodName) (head1 (Jvm.Cond.code (⟨"com/example/wary_bearer/warybearer/http/Http1Reader", "isToken", "(Ljava/lang/String;II)Z"⟩ : MethodName) prog_13_method_12_code 5 (some .boolean) :: ws) ({ frames := 5, cells := 0, slots := 0, locals := 66 } : Room)) (fun a U => a = #[(.ref r0), (.int (0 : Int32)), (.int (2 : Int32))] ∧ Z.Warmed39 U.vm ∧ U.heap = h0) (fun _ _ _ _ _ => True) (fun _ U o U' => ∃ v L, o = .returned v ∧ QrmTokL02 Z r0 c0 c1 c2 ta kb tt ct cst fv h0 n0 v U'.heap L ∧ FrameEnd U o U' L ({ frames := 5, cells := 0, slots := 0, locals := 66 } : Room).cells ({ frames := 5, cells := 0, slots := 0, locals := 66 } : Room).slots) := by
 refine MetFree.of_bodySF (plainFor_of_name pnc_com_example_wary_bearer_warybearer_http_Http1Reader) hisR ?_
 intro p e s m args below meth c s₁ Bd hml0 hP hK
 obtain ⟨rfl, hZ, hh⟩ := hP
 have hx := Bd.exec
 have hby := Bd.bytes
 have hml : c.maxLocals = 5 := hml0
 have hown : s.vm.findClass "com/example/wary_bearer/warybearer/http/Http1Reader" = some m.cls := findClass_of_methodNamed Bd.named
 have hnm := (name_of_methodNamed Bd.named Bd.method).1
 have X0 : Stand p l e ({ frames := 5, cells := 0, slots := 0, locals := 66 } : Room) s m #[(.ref r0), (.int (0 : Int32)), (.int (2 : Int32))] below meth c s₁ [] 0 0 := Stand.of_body Bd
 have e0 : s₁.heap = h0 := by rw [← hh, Bd.state]; rfl
 have N0 := Fr.nil n0
 have kp0 : Keep h0 h0 [] := Keep.refl _ _
 have G0 : ∀ t, Steps p.tables e below (s₁.setTop (mkF m 0 #[rv r0, iv 0, iv 2, .unset, .unset] [])) t → Steps p.tables e below (s₁.setTop (entryFrame m #[(.ref r0), (.int (0 : Int32)), (.int (2 : Int32))] 5)) t := fun t k => castTop (ef_rmTokL02 m r0 (0 : Int32) (2 : Int32)) k
 have G1 : ∀ t, Steps p.tables e below (s₁.setTop (mkF m 2 #[rv r0, iv 0, iv 2, .unset, .unset] [(.int (2 : Int32)), (.int (0 : Int32))])) t → Steps p.tables e below (s₁.setTop (entryFrame m #[(.ref r0), (.int (0 : Int32)), (.int (2 : Int32))] 5)) t := by
  intro t kt
  refine G0 _ ?_
  refine XS.iloadN X0.here hx rfl (hb hby d8_0) rfl ?_
  refine XS.iloadN X0.here hx rfl (hb hby d8_1) rfl ?_
  exact kt
 have G2 : ∀ t, Steps p.tables e below (s₁.setTop (mkF m 11 #[rv r0, iv 0, iv 2, iv 0, .unset] [(.int (2 : Int32)), (.int (0 : Int32))])) t → Steps p.tables e below (s₁.setTop (entryFrame m #[(.ref r0), (.int (0 : Int32)), (.int (2 : Int32))] 5)) t := by
  intro t kt
  refine G1 _ ?_
  refine XS.icmpYes X0.here hx rfl (pc0 := 2) (pc' := 7) rfl (hb hby d8_2) rfl (tlt (by decide)).1 (by decide) (by decide) ?_
  refine XS.iloadN X0.here hx rfl (hb hby d8_7) rfl ?_
  refine XS.istoreN X0.here hx rfl (hb hby d8_8) rfl (l' := #[rv r0, iv 0, iv 2, iv 0, .unset]) rfl ?_
  refine XS.iloadN X0.here hx rfl (hb hby d8_9) rfl ?_
  refine XS.iloadN X0.here hx rfl (hb hby d8_10) rfl ?_
  exact kt
 obtain ⟨cq3, kq3, q3a, q3b, q3c⟩ := isOf hZ e0 E0
 obtain ⟨_, _, ⟨T3, L3, k3, n3⟩, -, X3, ⟨Lc3, hQ3, l3, y3, z3⟩, st3⟩ := X0.virtualBack hx (y := (⟨"java/lang/String", "charAt", "(I)C"⟩ : MethodName)) (z := (⟨"java/lang/String", "charAt", "(I)C"⟩ : MethodName)) hown (mvT hZ (hw _ (List.mem_of_getElem? (i := 62) rfl))) (mvT hZ (hw _ (List.mem_of_getElem? (i := 63) rfl))) (notFace_of_selects (args := #[]) (mvT hZ (hw _ (List.mem_of_getElem? (i := 65) rfl)))) (mvT hZ (hw _ (List.mem_of_getElem? (i := 65) rfl))) (mvT hZ (hw _ (List.mem_of_getElem? (i := 64) rfl))) (by decide) (backOf (W := 0) (rmChL l Z a0 hw [] r0 (0 : Int32) ta kb (3 : Int32) [(.int (nar .byte (c0.toInt8.toInt32))), (.int (nar .byte (c1.toInt8.toInt32))), (.int (nar .byte (c2.toInt8.toInt32)))] (nar .byte (c0.toInt8.toInt32)) c0 cst fv h0 n0 Z0 E0 Fc Fv V0 O0 (by decide) (by decide) rfl (own_lat c0 hb0 hl0) SS) hZ (hw _ (List.mem_of_getElem? (i := 66) rfl)) (hw _ (List.mem_of_getElem? (i := 8) rfl)) (by decide) (by decide)) q3a q3c (g := (mkF m 16 #[rv r0, iv 0, iv 2, iv 0, .unset] [(.int (0 : Int32)), (.ref r0)])) rfl (by rw [hml]; rfl) (Steps.refl _) (argsL := [(.int (0 : Int32))]) (rest := []) (lenOf pd_13 rfl) rfl (by show 2 * 0 + _ ≤ _; exact Nat.le_of_eq rfl) (hb hby d8_16) (fun _ _ => ⟨rfl, e0, (by decide : 0 + 0 ≤ _), (by decide : 0 + 0 ≤ _)⟩)
 dsimp only [Pt.U, Pt.locs, Pt.cells, Pt.slots] at X3 l3 y3 z3 st3 hQ3
 subst l3 y3 z3
 obtain ⟨rfl, N3q, eh3⟩ := hQ3
 have N3 := Fr.app N0 N3q
 obtain ⟨T4, X4, e4, st4⟩ := getS2 X3 hx hZ hown (host := "") (Or.inl (hw _ (List.mem_of_getElem? (i := 89) rfl))) Via.refl eh3 (TS.ext O0.2) (g := (mkF m 23 #[rv r0, iv 0, iv 2, iv 0, iv c0] [(.int c0)])) rfl (hb hby d8_23)
 have G5 : ∀ t, Steps p.tables e below (T4.setTop (mkF m 27 #[rv r0, iv 0, iv 2, iv 0, iv c0] [(.int (128 : Int32)), (.int c0)])) t → Steps p.tables e below (s₁.setTop (entryFrame m #[(.ref r0), (.int (0 : Int32)), (.int (2 : Int32))] 5)) t := by
  intro t kt
  refine G2 _ ?_
  refine XS.icmpNo X0.here hx rfl (hb hby d8_11) rfl (tlt (by decide)).2.1 ?_
  refine XS.aloadN X0.here hx rfl (hb hby d8_14) rfl rfl ?_
  refine XS.iloadN X0.here hx rfl (hb hby d8_15) rfl ?_
  refine st3.trans ?_
  refine XS.istore X3.here hx rfl (hb hby d8_19) rfl (l' := #[rv r0, iv 0, iv 2, iv 0, iv c0]) rfl ?_
  refine XS.iload X3.here hx rfl (hb hby d8_21) rfl ?_
  refine st4 _ ?_
  refine X4.arraylength hx (by rw [e4]; exact (TA.ext O0.2).1) (State.isArrayOf_alike hZ.alike (TA.ext O0.2).2.1) (g := (mkF m 26 #[rv r0, iv 0, iv 2, iv 0, iv c0] [(.ref tt), (.int c0)])) rfl rfl (hb hby d8_26) _ ?_
  rw [len_of TS2 (by decide)]
  exact kt
 by_cases hc27_6 : c0 < (128 : Int32)
 ·skip
  obtain ⟨T7, X7, e7, st7⟩ := getS2 X4 hx hZ hown (host := "") (Or.inl (hw _ (List.mem_of_getElem? (i := 89) rfl))) Via.refl e4 (TS.ext O0.2) (g := (mkF m 30 #[rv r0, iv 0, iv 2, iv 0, iv c0] [])) rfl (hb hby d8_30)
  have hn8 : ¬ (c0 < (0 : Int32)) := by rw [Int32.lt_iff_toInt_lt]; exact Int.not_lt.mpr hb0.1
  have hin8 : ¬ (c0 < 0 ∨ ct.slots.size ≤ (c0).toNatClampNeg) := inb_of TS2 ⟨hn8, hc27_6⟩
  have hat8 := TV c0 hn8 hc27_6
  have G9 : ∀ t, Steps p.tables e below (T7.setTop (mkF m 36 #[rv r0, iv 0, iv 2, iv 0, iv c0] [(.int (fisT c0))])) t → Steps p.tables e below (s₁.setTop (entryFrame m #[(.ref r0), (.int (0 : Int32)), (.int (2 : Int32))] 5)) t := by
   intro t kt
   refine G5 _ ?_
   refine XS.icmpNo X4.here hx rfl (hb hby d8_27) rfl (tlt hc27_6).2.1 ?_
   refine st7 _ ?_
   refine XS.iload X7.here hx rfl (hb hby d8_33) rfl ?_
   refine X7.baloadBooleans hx (j := c0) (v := (.int (fisT c0))) (by rw [e7]; exact (TA.ext O0.2).1) (State.isArrayOf_alike hZ.alike (TA.ext O0.2).2.1) (TA.ext O0.2).2.2 hin8 hat8 (g := (mkF m 35 #[rv r0, iv 0, iv 2, iv 0, iv c0] [(.int c0), (.ref tt)])) rfl rfl (hb hby d8_35) _ ?_
   exact kt
  by_cases hc36_10 : (fisT c0) = (0 : Int32)
  ·skip
   obtain ⟨fs, hr, hrun, hended, hW, hsame⟩ := X7.leave (v := some (.int (0 : Int32))) (fun h => by rw [Bd.returns] at h; cases h)
   refine ⟨_, _, G9 _ ?_, hrun, hended, _, _, rfl, ?_, ⟨_, rfl⟩, hW, hsame.mono (by decide) (by decide)⟩
   ·skip
    refine XS.ifNo X7.here hx rfl (hb hby d8_36) rfl ((if0 _ _).trans (teq hc36_10).2) ?_
    refine XS.iconst X7.here hx rfl (hb hby d8_39) ?_
    exact retN X7 hx (t := .boolean) Bd.returns (by simp) (hb hby d8_40) hr
   ·show QrmTokL02 Z r0 c0 c1 c2 ta kb tt ct cst fv h0 n0 _ T7.heap _
    rw [e7]
    exact ⟨by rw [own_tok, if_pos hc36_10], N3, rfl⟩
  ·skip
   have G11 : ∀ t, Steps p.tables e below (T7.setTop (mkF m 11 #[rv r0, iv 0, iv 2, iv 1, iv c0] [(.int (2 : Int32)), (.int (1 : Int32))])) t → Steps p.tables e below (s₁.setTop (entryFrame m #[(.ref r0), (.int (0 : Int32)), (.int (2 : Int32))] 5)) t := by
    intro t kt
    refine G9 _ ?_
    refine XS.ifYes X7.here hx rfl (pc0 := 36) (pc' := 41) rfl (hb hby d8_36) rfl ((if0 _ _).trans (feq hc36_10).2) (by decide) (by decide) ?_
    refine XS.iinc X7.here hx rfl (hb hby d8_41) rfl (l' := #[rv r0, iv 0, iv 2, iv 1, iv c0]) rfl ?_
    refine XS.goto X7.here hx rfl (pc0 := 44) (pc' := 9) rfl (hb hby d8_44) (by decide) (by decide) ?_
    refine XS.iloadN X7.here hx rfl (hb hby d8_9) rfl ?_
    show Steps p.tables e below (T7.setTop (mkF m 10 #[rv r0, iv 0, iv 2, iv 1, iv c0] [(.int (1 : Int32))])) _
    refine XS.iloadN X7.here hx rfl (hb hby d8_10) rfl ?_
    exact kt
   obtain ⟨cq12, kq12, q12a, q12b, q12c⟩ := isOf hZ e7 E0
   obtain ⟨_, _, ⟨T12, L12, k12, n12⟩, -, X12, ⟨Lc12, hQ12, l12, y12, z12⟩, st12⟩ := X7.virtualBack hx (y := (⟨"java/lang/String", "charAt", "(I)C"⟩ : MethodName)) (z := (⟨"java/lang/String", "charAt", "(I)C"⟩ : MethodName)) hown (mvT hZ (hw _ (List.mem_of_getElem? (i := 62) rfl))) (mvT hZ (hw _ (List.mem_of_getElem? (i := 63) rfl))) (notFace_of_selects (args := #[]) (mvT hZ (hw _ (List.mem_of_getElem? (i := 65) rfl)))) (mvT hZ (hw _ (List.mem_of_getElem? (i := 65) rfl))) (mvT hZ (hw _ (List.mem_of_getElem? (i := 64) rfl))) (by decide) (backOf (W := 0) (rmChL l Z a0 hw [] r0 (1 : Int32) ta kb (3 : Int32) [(.int (nar .byte (c0.toInt8.toInt32))), (.int (nar .byte (c1.toInt8.toInt32))), (.int (nar .byte (c2.toInt8.toInt32)))] (nar .byte (c1.toInt8.toInt32)) c1 cst fv h0 n0 Z0 E0 Fc Fv V0 O0 (by decide) (by decide) rfl (own_lat c1 hb1 hl1) SS) hZ (hw _ (List.mem_of_getElem? (i := 66) rfl)) (hw _ (List.mem_of_getElem? (i := 8) rfl)) (by decide) (by decide)) q12a q12c (g := (mkF m 16 #[rv r0, iv 0, iv 2, iv 1, iv c0] [(.int (1 : Int32)), (.ref r0)])) rfl (by rw [hml]; rfl) (Steps.refl _) (argsL := [(.int (1 : Int32))]) (rest := []) (lenOf pd_13 rfl) rfl (by show 2 * 0 + _ ≤ _; exact Nat.le_of_eq rfl) (hb hby d8_16) (fun _ _ => ⟨rfl, e7, (by decide : 0 + 0 ≤ _), (by decide : 0 + 0 ≤ _)⟩)
   dsimp only [Pt.U, Pt.locs, Pt.cells, Pt.slots] at X12 l12 y12 z12 st12 hQ12
   subst l12 y12 z12
   obtain ⟨rfl, N12q, eh12⟩ := hQ12
   have N12 := Fr.app N3 N12q
   obtain ⟨T13, X13, e13, st13⟩ := getS2 X12 hx hZ hown (host := "") (Or.inl (hw _ (List.mem_of_getElem? (i := 89) rfl))) Via.refl eh12 (TS.ext O0.2) (g := (mkF m 23 #[rv r0, iv 0, iv 2, iv 1, iv c1] [(.int c1)])) rfl (hb hby d8_23)
   have G14 : ∀ t, Steps p.tables e below (T13.setTop (mkF m 27 #[rv r0, iv 0, iv 2, iv 1, iv c1] [(.int (128 : Int32)), (.int c1)])) t → Steps p.tables e below (s₁.setTop (entryFrame m #[(.ref r0), (.int (0 : Int32)), (.int (2 : Int32))] 5)) t := by
    intro t kt
    refine G11 _ ?_
    refine XS.icmpNo X7.here hx rfl (hb hby d8_11) rfl (tlt (by decide)).2.1 ?_
    refine XS.aloadN X7.here hx rfl (hb hby d8_14) rfl rfl ?_
    refine XS.iloadN X7.here hx rfl (hb hby d8_15) rfl ?_
    refine st12.trans ?_
    refine XS.istore X12.here hx rfl (hb hby d8_19) rfl (l' := #[rv r0, iv 0, iv 2, iv 1, iv c1]) rfl ?_
    refine XS.iload X12.here hx rfl (hb hby d8_21) rfl ?_
    refine st13 _ ?_
    refine X13.arraylength hx (by rw [e13]; exact (TA.ext O0.2).1) (State.isArrayOf_alike hZ.alike (TA.ext O0.2).2.1) (g := (mkF m 26 #[rv r0, iv 0, iv 2, iv 1, iv c1] [(.ref tt), (.int c1)])) rfl rfl (hb hby d8_26) _ ?_
    rw [len_of TS2 (by decide)]
    exact kt
   by_cases hc27_15 : c1 < (128 : Int32)
   ·skip
    obtain ⟨T16, X16, e16, st16⟩ := getS2 X13 hx hZ hown (host := "") (Or.inl (hw _ (List.mem_of_getElem? (i := 89) rfl))) Via.refl e13 (TS.ext O0.2) (g := (mkF m 30 #[rv r0, iv 0, iv 2, iv 1, iv c1] [])) rfl (hb hby d8_30)
    have hn17 : ¬ (c1 < (0 : Int32)) := by rw [Int32.lt_iff_toInt_lt]; exact Int.not_lt.mpr hb1.1
    have hin17 : ¬ (c1 < 0 ∨ ct.slots.size ≤ (c1).toNatClampNeg) := inb_of TS2 ⟨hn17, hc27_15⟩
    have hat17 := TV c1 hn17 hc27_15
    have G18 : ∀ t, Steps p.tables e below (T16.setTop (mkF m 36 #[rv r0, iv 0, iv 2, iv 1, iv c1] [(.int (fisT c1))])) t → Steps p.tables e below (s₁.setTop (entryFrame m #[(.ref r0), (.int (0 : Int32)), (.int (2 : Int32))] 5)) t := by
     intro t kt
     refine G14 _ ?_
     refine XS.icmpNo X13.here hx rfl (hb hby d8_27) rfl (tlt hc27_15).2.1 ?_
     refine st16 _ ?_
     refine XS.iload X16.here hx rfl (hb hby d8_33) rfl ?_
     refine X16.baloadBooleans hx (j := c1) (v := (.int (fisT c1))) (by rw [e16]; exact (TA.ext O0.2).1) (State.isArrayOf_alike hZ.alike (TA.ext O0.2).2.1) (TA.ext O0.2).2.2 hin17 hat17 (g := (mkF m 35 #[rv r0, iv 0, iv 2, iv 1, iv c1] [(.int c1), (.ref tt)])) rfl rfl (hb hby d8_35) _ ?_
     exact kt
    by_cases hc36_19 : (fisT c1) = (0 : Int32)
    ·skip
     obtain ⟨fs, hr, hrun, hended, hW, hsame⟩ := X16.leave (v := some (.int (0 : Int32))) (fun h => by rw [Bd.returns] at h; cases h)
     refine ⟨_, _, G18 _ ?_, hrun, hended, _, _, rfl, ?_, ⟨_, rfl⟩, hW, hsame.mono (by decide) (by decide)⟩
     ·skip
      refine XS.ifNo X16.here hx rfl (hb hby d8_36) rfl ((if0 _ _).trans (teq hc36_19).2) ?_
      refine XS.iconst X16.here hx rfl (hb hby d8_39) ?_
      exact retN X16 hx (t := .boolean) Bd.returns (by simp) (hb hby d8_40) hr
     ·show QrmTokL02 Z r0 c0 c1 c2 ta kb tt ct cst fv h0 n0 _ T16.heap _
      rw [e16]
      exact ⟨by rw [own_tok, if_neg hc36_10, own_tok, if_pos hc36_19], N12, rfl⟩
    ·skip
     have G20 : ∀ t, Steps p.tables e below (T16.setTop (mkF m 11 #[rv r0, iv 0, iv 2, iv 2, iv c1] [(.int (2 : Int32)), (.int (2 : Int32))])) t → Steps p.tables e below (s₁.setTop (entryFrame m #[(.ref r0), (.int (0 : Int32)), (.int (2 : Int32))] 5)) t := by
      intro t kt
      refine G18 _ ?_
      refine XS.ifYes X16.here hx rfl (pc0 := 36) (pc' := 41) rfl (hb hby d8_36) rfl ((if0 _ _).trans (feq hc36_19).2) (by decide) (by decide) ?_
      refine XS.iinc X16.here hx rfl (hb hby d8_41) rfl (l' := #[rv r0, iv 0, iv 2, iv 2, iv c1]) rfl ?_
      refine XS.goto X16.here hx rfl (pc0 := 44) (pc' := 9) rfl (hb hby d8_44) (by decide) (by decide) ?_
      refine XS.iloadN X16.here hx rfl (hb hby d8_9) rfl ?_
      refine XS.iloadN X16.here hx rfl (hb hby d8_10) rfl ?_
      exact kt
     obtain ⟨fs, hr, hrun, hended, hW, hsame⟩ := X16.leave (v := some (.int (1 : Int32))) (fun h => by rw [Bd.returns] at h; cases h)
     refine ⟨_, _, G20 _ ?_, hrun, hended, _, _, rfl, ?_, ⟨_, rfl⟩, hW, hsame.mono (by decide) (by decide)⟩
     ·skip
      refine XS.icmpYes X16.here hx rfl (pc0 := 11) (pc' := 47) rfl (hb hby d8_11) rfl (flt (by decide)).2.1 (by decide) (by decide) ?_
      refine XS.iconst X16.here hx rfl (hb hby d8_47) ?_
      exact retN X16 hx (t := .boolean) Bd.returns (by simp) (hb hby d8_48) hr
     ·show QrmTokL02 Z r0 c0 c1 c2 ta kb tt ct cst fv h0 n0 _ T16.heap _
      rw [e16]
      exact ⟨by rw [own_tok, if_neg hc36_10, own_tok, if_neg hc36_19, own_tok], N12, rfl⟩
   ·skip
    obtain ⟨fs, hr, hrun, hended, hW, hsame⟩ := X13.leave (v := some (.int (0 : Int32))) (fun h => by rw [Bd.returns] at h; cases h)
    refine ⟨_, _, G14 _ ?_, hrun, hended, _, _, rfl, ?_, ⟨_, rfl⟩, hW, hsame.mono (by decide) (by decide)⟩
    ·skip
     refine XS.icmpYes X13.here hx rfl (pc0 := 27) (pc' := 39) rfl (hb hby d8_27) rfl (flt hc27_15).2.1 (by decide) (by decide) ?_
     refine XS.iconst X13.here hx rfl (hb hby d8_39) ?_
     exact retN X13 hx (t := .boolean) Bd.returns (by simp) (hb hby d8_40) hr
    ·show QrmTokL02 Z r0 c0 c1 c2 ta kb tt ct cst fv h0 n0 _ T13.heap _
     rw [e13]
     exact ⟨by rw [own_tok, if_neg hc36_10, own_tok, if_pos (own_big c1 hc27_15)], N12, rfl⟩
 ·skip
  obtain ⟨fs, hr, hrun, hended, hW, hsame⟩ := X4.leave (v := some (.int (0 : Int32))) (fun h => by rw [Bd.returns] at h; cases h)
  refine ⟨_, _, G5 _ ?_, hrun, hended, _, _, rfl, ?_, ⟨_, rfl⟩, hW, hsame.mono (by decide) (by decide)⟩
  ·skip
   refine XS.icmpYes X4.here hx rfl (pc0 := 27) (pc' := 39) rfl (hb hby d8_27) rfl (flt hc27_6).2.1 (by decide) (by decide) ?_
   refine XS.iconst X4.here hx rfl (hb hby d8_39) ?_
   exact retN X4 hx (t := .boolean) Bd.returns (by simp) (hb hby d8_40) hr
  ·show QrmTokL02 Z r0 c0 c1 c2 ta kb tt ct cst fv h0 n0 _ T4.heap _
   rw [e4]
   exact ⟨by rw [own_tok, if_pos (own_big c0 hc27_6)], N3, rfl⟩
def QrmTokL03 (Z : State) (r0 : Addr) (c0 c1 c2 : Int32) (ta : Addr) (kb : ClassId) (tt : Addr) (ct : Cell) (cst : Int32) (fv : Value) (h0 : Heap) (n0 : Nat) (v : Option Value) (h : Heap) (L : List Loc) : Prop := v = some (.int (own_tok [c0, c1, c2])) ∧ Fr n0 L ∧ h = h0
theorem ef_rmTokL03 (m : MethodId) (x0 : Addr) (x1 : Int32) (x2 : Int32) : entryFrame m #[(.ref x0), (.int x1), (.int x2)] 5 = mkF m 0 #[.val (.ref x0), .val (.int x1), .val (.int x2), .unset, .unset] [] := by first | (simp [entryFrame, mkF, argsToLocals, Value.category]; done) | rfl
set_option maxRecDepth 65536 in
set_option maxHeartbeats 40000000 in
theorem rmTokL03 (l : Launch) (Z : State) (a0 : Array Value) (hw : ∀ d ∈ tables_1, d.before a0 Z = true) (ws : List Jvm.Cond) (r0 : Addr) (c0 c1 c2 : Int32) (ta : Addr) (kb : ClassId) (tt : Addr) (ct : Cell) (cst : Int32) (fv : Value) (h0 : Heap) (n0 : Nat) (Z0 : n0 ≤ h0.size) (E0 : Exa Z h0 r0 "java/lang/String") (Fc : Fld Z h0 r0 "java/lang/String" "coder" "B" (.int (0 : Int32))) (Fv : Fld Z h0 r0 "java/lang/String" "value" "[B" (.ref ta)) (V0 : Arv Z h0 ta kb .byte (3 : Int32) [(.int (nar .byte (c0.toInt8.toInt32))), (.int (nar .byte (c1.toInt8.toInt32))), (.int (nar .byte (c2.toInt8.toInt32)))] (.int (0 : Int32))) (O0 : Old Z n0 h0) (hb0 : 0 ≤ c0.toInt ∧ c0.toInt ≤ 65535) (hb1 : 0 ≤ c1.toInt ∧ c1.toInt ≤ 65535) (hb2 : 0 ≤ c2.toInt ∧ c2.toInt ≤ 65535) (hl0 : ¬ ((255 : Int32) < c0)) (hl1 : ¬ ((255 : Int32) < c1)) (hl2 : ¬ ((255 : Int32) < c2)) (TS : Sta Z Z.heap "com/example/wary_bearer/warybearer/http/Http1Reader" "TCHAR" "[Z" (.ref tt)) (TA : Arr Z Z.heap tt ct .boolean) (TS2 : ct.slots.size = (128 : Int32).toNatClampNeg) (TV : ∀ j : Int32, ¬ (j < (0 : Int32)) → j < (128 : Int32) → ct.slots[j.toNatClampNeg]? = some (.int (fisT j))) (SS : Sts Z cst fv) :
  MetFree l (⟨"com/example/wary_bearer/warybearer/http/Http1Reader", "isToken", "(Ljava/lang/String;II)Z"⟩ : MethodName) (head1 (Jvm.Cond.code (⟨"com/example/wary_bearer/warybearer/http/Http1Reader", "isToken", "(Ljava/lang/String;II)Z"⟩ : MethodName) prog_13_method_12_code 5 (some .boolean) :: ws) ({ frames := 5, cells := 0, slots := 0, locals := 66 } : Room)) (fun a U => a = #[(.ref r0), (.int (0 : Int32)), (.int (3 : Int32))] ∧ Z.Warmed39 U.vm ∧ U.heap = h0) (fun _ _ _ _ _ => True) (fun _ U o U' => ∃ v L, o = .returned v ∧ QrmTokL03 Z r0 c0 c1 c2 ta kb tt ct cst fv h0 n0 v U'.heap L ∧ FrameEnd U o U' L ({ frames := 5, cells := 0, slots := 0, locals := 66 } : Room).cells ({ frames := 5, cells := 0, slots := 0, locals := 66 } : Room).slots) := by
 refine MetFree.of_bodySF (plainFor_of_name pnc_com_example_wary_bearer_warybearer_http_Http1Reader) hisR ?_
 intro p e s m args below meth c s₁ Bd hml0 hP hK
 obtain ⟨rfl, hZ, hh⟩ := hP
 have hx := Bd.exec
 have hby := Bd.bytes
 have hml : c.maxLocals = 5 := hml0
 have hown : s.vm.findClass "com/example/wary_bearer/warybearer/http/Http1Reader" = some m.cls := findClass_of_methodNamed Bd.named
 have hnm := (name_of_methodNamed Bd.named Bd.method).1
 have X0 : Stand p l e ({ frames := 5, cells := 0, slots := 0, locals := 66 } : Room) s m #[(.ref r0), (.int (0 : Int32)), (.int (3 : Int32))] below meth c s₁ [] 0 0 := Stand.of_body Bd
 have e0 : s₁.heap = h0 := by rw [← hh, Bd.state]; rfl
 have N0 := Fr.nil n0
 have kp0 : Keep h0 h0 [] := Keep.refl _ _
 have G0 : ∀ t, Steps p.tables e below (s₁.setTop (mkF m 0 #[rv r0, iv 0, iv 3, .unset, .unset] [])) t → Steps p.tables e below (s₁.setTop (entryFrame m #[(.ref r0), (.int (0 : Int32)), (.int (3 : Int32))] 5)) t := fun t k => castTop (ef_rmTokL03 m r0 (0 : Int32) (3 : Int32)) k
 have G1 : ∀ t, Steps p.tables e below (s₁.setTop (mkF m 2 #[rv r0, iv 0, iv 3, .unset, .unset] [(.int (3 : Int32)), (.int (0 : Int32))])) t → Steps p.tables e below (s₁.setTop (entryFrame m #[(.ref r0), (.int (0 : Int32)), (.int (3 : Int32))] 5)) t := by
  intro t kt
  refine G0 _ ?_
  refine XS.iloadN X0.here hx rfl (hb hby d8_0) rfl ?_
  refine XS.iloadN X0.here hx rfl (hb hby d8_1) rfl ?_
  exact kt
 have G2 : ∀ t, Steps p.tables e below (s₁.setTop (mkF m 11 #[rv r0, iv 0, iv 3, iv 0, .unset] [(.int (3 : Int32)), (.int (0 : Int32))])) t → Steps p.tables e below (s₁.setTop (entryFrame m #[(.ref r0), (.int (0 : Int32)), (.int (3 : Int32))] 5)) t := by
  intro t kt
  refine G1 _ ?_
  refine XS.icmpYes X0.here hx rfl (pc0 := 2) (pc' := 7) rfl (hb hby d8_2) rfl (tlt (by decide)).1 (by decide) (by decide) ?_
  refine XS.iloadN X0.here hx rfl (hb hby d8_7) rfl ?_
  refine XS.istoreN X0.here hx rfl (hb hby d8_8) rfl (l' := #[rv r0, iv 0, iv 3, iv 0, .unset]) rfl ?_
  refine XS.iloadN X0.here hx rfl (hb hby d8_9) rfl ?_
  refine XS.iloadN X0.here hx rfl (hb hby d8_10) rfl ?_
  exact kt
 obtain ⟨cq3, kq3, q3a, q3b, q3c⟩ := isOf hZ e0 E0
 obtain ⟨_, _, ⟨T3, L3, k3, n3⟩, -, X3, ⟨Lc3, hQ3, l3, y3, z3⟩, st3⟩ := X0.virtualBack hx (y := (⟨"java/lang/String", "charAt", "(I)C"⟩ : MethodName)) (z := (⟨"java/lang/String", "charAt", "(I)C"⟩ : MethodName)) hown (mvT hZ (hw _ (List.mem_of_getElem? (i := 62) rfl))) (mvT hZ (hw _ (List.mem_of_getElem? (i := 63) rfl))) (notFace_of_selects (args := #[]) (mvT hZ (hw _ (List.mem_of_getElem? (i := 65) rfl)))) (mvT hZ (hw _ (List.mem_of_getElem? (i := 65) rfl))) (mvT hZ (hw _ (List.mem_of_getElem? (i := 64) rfl))) (by decide) (backOf (W := 0) (rmChL l Z a0 hw [] r0 (0 : Int32) ta kb (3 : Int32) [(.int (nar .byte (c0.toInt8.toInt32))), (.int (nar .byte (c1.toInt8.toInt32))), (.int (nar .byte (c2.toInt8.toInt32)))] (nar .byte (c0.toInt8.toInt32)) c0 cst fv h0 n0 Z0 E0 Fc Fv V0 O0 (by decide) (by decide) rfl (own_lat c0 hb0 hl0) SS) hZ (hw _ (List.mem_of_getElem? (i := 66) rfl)) (hw _ (List.mem_of_getElem? (i := 8) rfl)) (by decide) (by decide)) q3a q3c (g := (mkF m 16 #[rv r0, iv 0, iv 3, iv 0, .unset] [(.int (0 : Int32)), (.ref r0)])) rfl (by rw [hml]; rfl) (Steps.refl _) (argsL := [(.int (0 : Int32))]) (rest := []) (lenOf pd_13 rfl) rfl (by show 2 * 0 + _ ≤ _; exact Nat.le_of_eq rfl) (hb hby d8_16) (fun _ _ => ⟨rfl, e0, (by decide : 0 + 0 ≤ _), (by decide : 0 + 0 ≤ _)⟩)
 dsimp only [Pt.U, Pt.locs, Pt.cells, Pt.slots] at X3 l3 y3 z3 st3 hQ3
 subst l3 y3 z3
 obtain ⟨rfl, N3q, eh3⟩ := hQ3
 have N3 := Fr.app N0 N3q
 obtain ⟨T4, X4, e4, st4⟩ := getS2 X3 hx hZ hown (host := "") (Or.inl (hw _ (List.mem_of_getElem? (i := 89) rfl))) Via.refl eh3 (TS.ext O0.2) (g := (mkF m 23 #[rv r0, iv 0, iv 3, iv 0, iv c0] [(.int c0)])) rfl (hb hby d8_23)
 have G5 : ∀ t, Steps p.tables e below (T4.setTop (mkF m 27 #[rv r0, iv 0, iv 3, iv 0, iv c0] [(.int (128 : Int32)), (.int c0)])) t → Steps p.tables e below (s₁.setTop (entryFrame m #[(.ref r0), (.int (0 : Int32)), (.int (3 : Int32))] 5)) t := by
  intro t kt
  refine G2 _ ?_
  refine XS.icmpNo X0.here hx rfl (hb hby d8_11) rfl (tlt (by decide)).2.1 ?_
  refine XS.aloadN X0.here hx rfl (hb hby d8_14) rfl rfl ?_
  refine XS.iloadN X0.here hx rfl (hb hby d8_15) rfl ?_
  refine st3.trans ?_
  refine XS.istore X3.here hx rfl (hb hby d8_19) rfl (l' := #[rv r0, iv 0, iv 3, iv 0, iv c0]) rfl ?_
  refine XS.iload X3.here hx rfl (hb hby d8_21) rfl ?_
  refine st4 _ ?_
  refine X4.arraylength hx (by rw [e4]; exact (TA.ext O0.2).1) (State.isArrayOf_alike hZ.alike (TA.ext O0.2).2.1) (g := (mkF m 26 #[rv r0, iv 0, iv 3, iv 0, iv c0] [(.ref tt), (.int c0)])) rfl rfl (hb hby d8_26) _ ?_
  rw [len_of TS2 (by decide)]
  exact kt
 by_cases hc27_6 : c0 < (128 : Int32)
 ·skip
  obtain ⟨T7, X7, e7, st7⟩ := getS2 X4 hx hZ hown (host := "") (Or.inl (hw _ (List.mem_of_getElem? (i := 89) rfl))) Via.refl e4 (TS.ext O0.2) (g := (mkF m 30 #[rv r0, iv 0, iv 3, iv 0, iv c0] [])) rfl (hb hby d8_30)
  have hn8 : ¬ (c0 < (0 : Int32)) := by rw [Int32.lt_iff_toInt_lt]; exact Int.not_lt.mpr hb0.1
  have hin8 : ¬ (c0 < 0 ∨ ct.slots.size ≤ (c0).toNatClampNeg) := inb_of TS2 ⟨hn8, hc27_6⟩
  have hat8 := TV c0 hn8 hc27_6
  have G9 : ∀ t, Steps p.tables e below (T7.setTop (mkF m 36 #[rv r0, iv 0, iv 3, iv 0, iv c0] [(.int (fisT c0))])) t → Steps p.tables e below (s₁.setTop (entryFrame m #[(.ref r0), (.int (0 : Int32)), (.int (3 : Int32))] 5)) t := by
   intro t kt
   refine G5 _ ?_
   refine XS.icmpNo X4.here hx rfl (hb hby d8_27) rfl (tlt hc27_6).2.1 ?_
   refine st7 _ ?_
   refine XS.iload X7.here hx rfl (hb hby d8_33) rfl ?_
   refine X7.baloadBooleans hx (j := c0) (v := (.int (fisT c0))) (by rw [e7]; exact (TA.ext O0.2).1) (State.isArrayOf_alike hZ.alike (TA.ext O0.2).2.1) (TA.ext O0.2).2.2 hin8 hat8 (g := (mkF m 35 #[rv r0, iv 0, iv 3, iv 0, iv c0] [(.int c0), (.ref tt)])) rfl rfl (hb hby d8_35) _ ?_
   exact kt
  by_cases hc36_10 : (fisT c0) = (0 : Int32)
  ·skip
   obtain ⟨fs, hr, hrun, hended, hW, hsame⟩ := X7.leave (v := some (.int (0 : Int32))) (fun h => by rw [Bd.returns] at h; cases h)
   refine ⟨_, _, G9 _ ?_, hrun, hended, _, _, rfl, ?_, ⟨_, rfl⟩, hW, hsame.mono (by decide) (by decide)⟩
   ·skip
    refine XS.ifNo X7.here hx rfl (hb hby d8_36) rfl ((if0 _ _).trans (teq hc36_10).2) ?_
    refine XS.iconst X7.here hx rfl (hb hby d8_39) ?_
    exact retN X7 hx (t := .boolean) Bd.returns (by simp) (hb hby d8_40) hr
   ·show QrmTokL03 Z r0 c0 c1 c2 ta kb tt ct cst fv h0 n0 _ T7.heap _
    rw [e7]
    exact ⟨by rw [own_tok, if_pos hc36_10], N3, rfl⟩
  ·skip
   have G11 : ∀ t, Steps p.tables e below (T7.setTop (mkF m 11 #[rv r0, iv 0, iv 3, iv 1, iv c0] [(.int (3 : Int32)), (.int (1 : Int32))])) t → Steps p.tables e below (s₁.setTop (entryFrame m #[(.ref r0), (.int (0 : Int32)), (.int (3 : Int32))] 5)) t := by
    intro t kt
    refine G9 _ ?_
    refine XS.ifYes X7.here hx rfl (pc0 := 36) (pc' := 41) rfl (hb hby d8_36) rfl ((if0 _ _).trans (feq hc36_10).2) (by decide) (by decide) ?_
    refine XS.iinc X7.here hx rfl (hb hby d8_41) rfl (l' := #[rv r0, iv 0, iv 3, iv 1, iv c0]) rfl ?_
    refine XS.goto X7.here hx rfl (pc0 := 44) (pc' := 9) rfl (hb hby d8_44) (by decide) (by decide) ?_
    refine XS.iloadN X7.here hx rfl (hb hby d8_9) rfl ?_
    show Steps p.tables e below (T7.setTop (mkF m 10 #[rv r0, iv 0, iv 3, iv 1, iv c0] [(.int (1 : Int32))])) _
    refine XS.iloadN X7.here hx rfl (hb hby d8_10) rfl ?_
    exact kt
   obtain ⟨cq12, kq12, q12a, q12b, q12c⟩ := isOf hZ e7 E0
   obtain ⟨_, _, ⟨T12, L12, k12, n12⟩, -, X12, ⟨Lc12, hQ12, l12, y12, z12⟩, st12⟩ := X7.virtualBack hx (y := (⟨"java/lang/String", "charAt", "(I)C"⟩ : MethodName)) (z := (⟨"java/lang/String", "charAt", "(I)C"⟩ : MethodName)) hown (mvT hZ (hw _ (List.mem_of_getElem? (i := 62) rfl))) (mvT hZ (hw _ (List.mem_of_getElem? (i := 63) rfl))) (notFace_of_selects (args := #[]) (mvT hZ (hw _ (List.mem_of_getElem? (i := 65) rfl)))) (mvT hZ (hw _ (List.mem_of_getElem? (i := 65) rfl))) (mvT hZ (hw _ (List.mem_of_getElem? (i := 64) rfl))) (by decide) (backOf (W := 0) (rmChL l Z a0 hw [] r0 (1 : Int32) ta kb (3 : Int32) [(.int (nar .byte (c0.toInt8.toInt32))), (.int (nar .byte (c1.toInt8.toInt32))), (.int (nar .byte (c2.toInt8.toInt32)))] (nar .byte (c1.toInt8.toInt32)) c1 cst fv h0 n0 Z0 E0 Fc Fv V0 O0 (by decide) (by decide) rfl (own_lat c1 hb1 hl1) SS) hZ (hw _ (List.mem_of_getElem? (i := 66) rfl)) (hw _ (List.mem_of_getElem? (i := 8) rfl)) (by decide) (by decide)) q12a q12c (g := (mkF m 16 #[rv r0, iv 0, iv 3, iv 1, iv c0] [(.int (1 : Int32)), (.ref r0)])) rfl (by rw [hml]; rfl) (Steps.refl _) (argsL := [(.int (1 : Int32))]) (rest := []) (lenOf pd_13 rfl) rfl (by show 2 * 0 + _ ≤ _; exact Nat.le_of_eq rfl) (hb hby d8_16) (fun _ _ => ⟨rfl, e7, (by decide : 0 + 0 ≤ _), (by decide : 0 + 0 ≤ _)⟩)
   dsimp only [Pt.U, Pt.locs, Pt.cells, Pt.slots] at X12 l12 y12 z12 st12 hQ12
   subst l12 y12 z12
   obtain ⟨rfl, N12q, eh12⟩ := hQ12
   have N12 := Fr.app N3 N12q
   obtain ⟨T13, X13, e13, st13⟩ := getS2 X12 hx hZ hown (host := "") (Or.inl (hw _ (List.mem_of_getElem? (i := 89) rfl))) Via.refl eh12 (TS.ext O0.2) (g := (mkF m 23 #[rv r0, iv 0, iv 3, iv 1, iv c1] [(.int c1)])) rfl (hb hby d8_23)
   have G14 : ∀ t, Steps p.tables e below (T13.setTop (mkF m 27 #[rv r0, iv 0, iv 3, iv 1, iv c1] [(.int (128 : Int32)), (.int c1)])) t → Steps p.tables e below (s₁.setTop (entryFrame m #[(.ref r0), (.int (0 : Int32)), (.int (3 : Int32))] 5)) t := by
    intro t kt
    refine G11 _ ?_
    refine XS.icmpNo X7.here hx rfl (hb hby d8_11) rfl (tlt (by decide)).2.1 ?_
    refine XS.aloadN X7.here hx rfl (hb hby d8_14) rfl rfl ?_
    refine XS.iloadN X7.here hx rfl (hb hby d8_15) rfl ?_
    refine st12.trans ?_
    refine XS.istore X12.here hx rfl (hb hby d8_19) rfl (l' := #[rv r0, iv 0, iv 3, iv 1, iv c1]) rfl ?_
    refine XS.iload X12.here hx rfl (hb hby d8_21) rfl ?_
    refine st13 _ ?_
    refine X13.arraylength hx (by rw [e13]; exact (TA.ext O0.2).1) (State.isArrayOf_alike hZ.alike (TA.ext O0.2).2.1) (g := (mkF m 26 #[rv r0, iv 0, iv 3, iv 1, iv c1] [(.ref tt), (.int c1)])) rfl rfl (hb hby d8_26) _ ?_
    rw [len_of TS2 (by decide)]
    exact kt
   by_cases hc27_15 : c1 < (128 : Int32)
   ·skip
    obtain ⟨T16, X16, e16, st16⟩ := getS2 X13 hx hZ hown (host := "") (Or.inl (hw _ (List.mem_of_getElem? (i := 89) rfl))) Via.refl e13 (TS.ext O0.2) (g := (mkF m 30 #[rv r0, iv 0, iv 3, iv 1, iv c1] [])) rfl (hb hby d8_30)
    have hn17 : ¬ (c1 < (0 : Int32)) := by rw [Int32.lt_iff_toInt_lt]; exact Int.not_lt.mpr hb1.1
    have hin17 : ¬ (c1 < 0 ∨ ct.slots.size ≤ (c1).toNatClampNeg) := inb_of TS2 ⟨hn17, hc27_15⟩
    have hat17 := TV c1 hn17 hc27_15
    have G18 : ∀ t, Steps p.tables e below (T16.setTop (mkF m 36 #[rv r0, iv 0, iv 3, iv 1, iv c1] [(.int (fisT c1))])) t → Steps p.tables e below (s₁.setTop (entryFrame m #[(.ref r0), (.int (0 : Int32)), (.int (3 : Int32))] 5)) t := by
     intro t kt
     refine G14 _ ?_
     refine XS.icmpNo X13.here hx rfl (hb hby d8_27) rfl (tlt hc27_15).2.1 ?_
     refine st16 _ ?_
     refine XS.iload X16.here hx rfl (hb hby d8_33) rfl ?_
     refine X16.baloadBooleans hx (j := c1) (v := (.int (fisT c1))) (by rw [e16]; exact (TA.ext O0.2).1) (State.isArrayOf_alike hZ.alike (TA.ext O0.2).2.1) (TA.ext O0.2).2.2 hin17 hat17 (g := (mkF m 35 #[rv r0, iv 0, iv 3, iv 1, iv c1] [(.int c1), (.ref tt)])) rfl rfl (hb hby d8_35) _ ?_
     exact kt
    by_cases hc36_19 : (fisT c1) = (0 : Int32)
    ·skip
     obtain ⟨fs, hr, hrun, hended, hW, hsame⟩ := X16.leave (v := some (.int (0 : Int32))) (fun h => by rw [Bd.returns] at h; cases h)
     refine ⟨_, _, G18 _ ?_, hrun, hended, _, _, rfl, ?_, ⟨_, rfl⟩, hW, hsame.mono (by decide) (by decide)⟩
     ·skip
      refine XS.ifNo X16.here hx rfl (hb hby d8_36) rfl ((if0 _ _).trans (teq hc36_19).2) ?_
      refine XS.iconst X16.here hx rfl (hb hby d8_39) ?_
      exact retN X16 hx (t := .boolean) Bd.returns (by simp) (hb hby d8_40) hr
     ·show QrmTokL03 Z r0 c0 c1 c2 ta kb tt ct cst fv h0 n0 _ T16.heap _
      rw [e16]
      exact ⟨by rw [own_tok, if_neg hc36_10, own_tok, if_pos hc36_19], N12, rfl⟩
    ·skip
     have G20 : ∀ t, Steps p.tables e below (T16.setTop (mkF m 11 #[rv r0, iv 0, iv 3, iv 2, iv c1] [(.int (3 : Int32)), (.int (2 : Int32))])) t → Steps p.tables e below (s₁.setTop (entryFrame m #[(.ref r0), (.int (0 : Int32)), (.int (3 : Int32))] 5)) t := by
      intro t kt
      refine G18 _ ?_
      refine XS.ifYes X16.here hx rfl (pc0 := 36) (pc' := 41) rfl (hb hby d8_36) rfl ((if0 _ _).trans (feq hc36_19).2) (by decide) (by decide) ?_
      refine XS.iinc X16.here hx rfl (hb hby d8_41) rfl (l' := #[rv r0, iv 0, iv 3, iv 2, iv c1]) rfl ?_
      refine XS.goto X16.here hx rfl (pc0 := 44) (pc' := 9) rfl (hb hby d8_44) (by decide) (by decide) ?_
      refine XS.iloadN X16.here hx rfl (hb hby d8_9) rfl ?_
      refine XS.iloadN X16.here hx rfl (hb hby d8_10) rfl ?_
      exact kt
     obtain ⟨cq21, kq21, q21a, q21b, q21c⟩ := isOf hZ e16 E0
     obtain ⟨_, _, ⟨T21, L21, k21, n21⟩, -, X21, ⟨Lc21, hQ21, l21, y21, z21⟩, st21⟩ := X16.virtualBack hx (y := (⟨"java/lang/String", "charAt", "(I)C"⟩ : MethodName)) (z := (⟨"java/lang/String", "charAt", "(I)C"⟩ : MethodName)) hown (mvT hZ (hw _ (List.mem_of_getElem? (i := 62) rfl))) (mvT hZ (hw _ (List.mem_of_getElem? (i := 63) rfl))) (notFace_of_selects (args := #[]) (mvT hZ (hw _ (List.mem_of_getElem? (i := 65) rfl)))) (mvT hZ (hw _ (List.mem_of_getElem? (i := 65) rfl))) (mvT hZ (hw _ (List.mem_of_getElem? (i := 64) rfl))) (by decide) (backOf (W := 0) (rmChL l Z a0 hw [] r0 (2 : Int32) ta kb (3 : Int32) [(.int (nar .byte (c0.toInt8.toInt32))), (.int (nar .byte (c1.toInt8.toInt32))), (.int (nar .byte (c2.toInt8.toInt32)))] (nar .byte (c2.toInt8.toInt32)) c2 cst fv h0 n0 Z0 E0 Fc Fv V0 O0 (by decide) (by decide) rfl (own_lat c2 hb2 hl2) SS) hZ (hw _ (List.mem_of_getElem? (i := 66) rfl)) (hw _ (List.mem_of_getElem? (i := 8) rfl)) (by decide) (by decide)) q21a q21c (g := (mkF m 16 #[rv r0, iv 0, iv 3, iv 2, iv c1] [(.int (2 : Int32)), (.ref r0)])) rfl (by rw [hml]; rfl) (Steps.refl _) (argsL := [(.int (2 : Int32))]) (rest := []) (lenOf pd_13 rfl) rfl (by show 2 * 0 + _ ≤ _; exact Nat.le_of_eq rfl) (hb hby d8_16) (fun _ _ => ⟨rfl, e16, (by decide : 0 + 0 ≤ _), (by decide : 0 + 0 ≤ _)⟩)
     dsimp only [Pt.U, Pt.locs, Pt.cells, Pt.slots] at X21 l21 y21 z21 st21 hQ21
     subst l21 y21 z21
     obtain ⟨rfl, N21q, eh21⟩ := hQ21
     have N21 := Fr.app N12 N21q
     obtain ⟨T22, X22, e22, st22⟩ := getS2 X21 hx hZ hown (host := "") (Or.inl (hw _ (List.mem_of_getElem? (i := 89) rfl))) Via.refl eh21 (TS.ext O0.2) (g := (mkF m 23 #[rv r0, iv 0, iv 3, iv 2, iv c2] [(.int c2)])) rfl (hb hby d8_23)
     have G23 : ∀ t, Steps p.tables e below (T22.setTop (mkF m 27 #[rv r0, iv 0, iv 3, iv 2, iv c2] [(.int (128 : Int32)), (.int c2)])) t → Steps p.tables e below (s₁.setTop (entryFrame m #[(.ref r0), (.int (0 : Int32)), (.int (3 : Int32))] 5)) t := by
      intro t kt
      refine G20 _ ?_
      refine XS.icmpNo X16.here hx rfl (hb hby d8_11) rfl (tlt (by decide)).2.1 ?_
      refine XS.aloadN X16.here hx rfl (hb hby d8_14) rfl rfl ?_
      refine XS.iloadN X16.here hx rfl (hb hby d8_15) rfl ?_
      refine st21.trans ?_
      refine XS.istore X21.here hx rfl (hb hby d8_19) rfl (l' := #[rv r0, iv 0, iv 3, iv 2, iv c2]) rfl ?_
      refine XS.iload X21.here hx rfl (hb hby d8_21) rfl ?_
      show Steps p.tables e below (T21.setTop (mkF m 23 #[rv r0, iv 0, iv 3, iv 2, iv c2] [(.int c2)])) _
      refine st22 _ ?_
      refine X22.arraylength hx (by rw [e22]; exact (TA.ext O0.2).1) (State.isArrayOf_alike hZ.alike (TA.ext O0.2).2.1) (g := (mkF m 26 #[rv r0, iv 0, iv 3, iv 2, iv c2] [(.ref tt), (.int c2)])) rfl rfl (hb hby d8_26) _ ?_
      rw [len_of TS2 (by decide)]
      exact kt
     by_cases hc27_24 : c2 < (128 : Int32)
     ·skip
      obtain ⟨T25, X25, e25, st25⟩ := getS2 X22 hx hZ hown (host := "") (Or.inl (hw _ (List.mem_of_getElem? (i := 89) rfl))) Via.refl e22 (TS.ext O0.2) (g := (mkF m 30 #[rv r0, iv 0, iv 3, iv 2, iv c2] [])) rfl (hb hby d8_30)
      have hn26 : ¬ (c2 < (0 : Int32)) := by rw [Int32.lt_iff_toInt_lt]; exact Int.not_lt.mpr hb2.1
      have hin26 : ¬ (c2 < 0 ∨ ct.slots.size ≤ (c2).toNatClampNeg) := inb_of TS2 ⟨hn26, hc27_24⟩
      have hat26 := TV c2 hn26 hc27_24
      have G27 : ∀ t, Steps p.tables e below (T25.setTop (mkF m 36 #[rv r0, iv 0, iv 3, iv 2, iv c2] [(.int (fisT c2))])) t → Steps p.tables e below (s₁.setTop (entryFrame m #[(.ref r0), (.int (0 : Int32)), (.int (3 : Int32))] 5)) t := by
       intro t kt
       refine G23 _ ?_
       refine XS.icmpNo X22.here hx rfl (hb hby d8_27) rfl (tlt hc27_24).2.1 ?_
       refine st25 _ ?_
       refine XS.iload X25.here hx rfl (hb hby d8_33) rfl ?_
       refine X25.baloadBooleans hx (j := c2) (v := (.int (fisT c2))) (by rw [e25]; exact (TA.ext O0.2).1) (State.isArrayOf_alike hZ.alike (TA.ext O0.2).2.1) (TA.ext O0.2).2.2 hin26 hat26 (g := (mkF m 35 #[rv r0, iv 0, iv 3, iv 2, iv c2] [(.int c2), (.ref tt)])) rfl rfl (hb hby d8_35) _ ?_
       exact kt
      by_cases hc36_28 : (fisT c2) = (0 : Int32)
      ·skip
       obtain ⟨fs, hr, hrun, hended, hW, hsame⟩ := X25.leave (v := some (.int (0 : Int32))) (fun h => by rw [Bd.returns] at h; cases h)
       refine ⟨_, _, G27 _ ?_, hrun, hended, _, _, rfl, ?_, ⟨_, rfl⟩, hW, hsame.mono (by decide) (by decide)⟩
       ·skip
        refine XS.ifNo X25.here hx rfl (hb hby d8_36) rfl ((if0 _ _).trans (teq hc36_28).2) ?_
        refine XS.iconst X25.here hx rfl (hb hby d8_39) ?_
        exact retN X25 hx (t := .boolean) Bd.returns (by simp) (hb hby d8_40) hr
       ·show QrmTokL03 Z r0 c0 c1 c2 ta kb tt ct cst fv h0 n0 _ T25.heap _
        rw [e25]
        exact ⟨by rw [own_tok, if_neg hc36_10, own_tok, if_neg hc36_19, own_tok, if_pos hc36_28], N21, rfl⟩
      ·skip
       have G29 : ∀ t, Steps p.tables e below (T25.setTop (mkF m 11 #[rv r0, iv 0, iv 3, iv 3, iv c2] [(.int (3 : Int32)), (.int (3 : Int32))])) t → Steps p.tables e below (s₁.setTop (entryFrame m #[(.ref r0), (.int (0 : Int32)), (.int (3 : Int32))] 5)) t := by
        intro t kt
        refine G27 _ ?_
        refine XS.ifYes X25.here hx rfl (pc0 := 36) (pc' := 41) rfl (hb hby d8_36) rfl ((if0 _ _).trans (feq hc36_28).2) (by decide) (by decide) ?_
        refine XS.iinc X25.here hx rfl (hb hby d8_41) rfl (l' := #[rv r0, iv 0, iv 3, iv 3, iv c2]) rfl ?_
        refine XS.goto X25.here hx rfl (pc0 := 44) (pc' := 9) rfl (hb hby d8_44) (by decide) (by decide) ?_
        refine XS.iloadN X25.here hx rfl (hb hby d8_9) rfl ?_
        refine XS.iloadN X25.here hx rfl (hb hby d8_10) rfl ?_
        exact kt
       obtain ⟨fs, hr, hrun, hended, hW, hsame⟩ := X25.leave (v := some (.int (1 : Int32))) (fun h => by rw [Bd.returns] at h; cases h)
       refine ⟨_, _, G29 _ ?_, hrun, hended, _, _, rfl, ?_, ⟨_, rfl⟩, hW, hsame.mono (by decide) (by decide)⟩
       ·skip
        refine XS.icmpYes X25.here hx rfl (pc0 := 11) (pc' := 47) rfl (hb hby d8_11) rfl (flt (by decide)).2.1 (by decide) (by decide) ?_
        refine XS.iconst X25.here hx rfl (hb hby d8_47) ?_
        exact retN X25 hx (t := .boolean) Bd.returns (by simp) (hb hby d8_48) hr
       ·show QrmTokL03 Z r0 c0 c1 c2 ta kb tt ct cst fv h0 n0 _ T25.heap _
        rw [e25]
        exact ⟨by rw [own_tok, if_neg hc36_10, own_tok, if_neg hc36_19, own_tok, if_neg hc36_28, own_tok], N21, rfl⟩
     ·skip
      obtain ⟨fs, hr, hrun, hended, hW, hsame⟩ := X22.leave (v := some (.int (0 : Int32))) (fun h => by rw [Bd.returns] at h; cases h)
      refine ⟨_, _, G23 _ ?_, hrun, hended, _, _, rfl, ?_, ⟨_, rfl⟩, hW, hsame.mono (by decide) (by decide)⟩
      ·skip
       refine XS.icmpYes X22.here hx rfl (pc0 := 27) (pc' := 39) rfl (hb hby d8_27) rfl (flt hc27_24).2.1 (by decide) (by decide) ?_
       refine XS.iconst X22.here hx rfl (hb hby d8_39) ?_
       exact retN X22 hx (t := .boolean) Bd.returns (by simp) (hb hby d8_40) hr
      ·show QrmTokL03 Z r0 c0 c1 c2 ta kb tt ct cst fv h0 n0 _ T22.heap _
       rw [e22]
       exact ⟨by rw [own_tok, if_neg hc36_10, own_tok, if_neg hc36_19, own_tok, if_pos (own_big c2 hc27_24)], N21, rfl⟩
   ·skip
    obtain ⟨fs, hr, hrun, hended, hW, hsame⟩ := X13.leave (v := some (.int (0 : Int32))) (fun h => by rw [Bd.returns] at h; cases h)
    refine ⟨_, _, G14 _ ?_, hrun, hended, _, _, rfl, ?_, ⟨_, rfl⟩, hW, hsame.mono (by decide) (by decide)⟩
    ·skip
     refine XS.icmpYes X13.here hx rfl (pc0 := 27) (pc' := 39) rfl (hb hby d8_27) rfl (flt hc27_15).2.1 (by decide) (by decide) ?_
     refine XS.iconst X13.here hx rfl (hb hby d8_39) ?_
     exact retN X13 hx (t := .boolean) Bd.returns (by simp) (hb hby d8_40) hr
    ·show QrmTokL03 Z r0 c0 c1 c2 ta kb tt ct cst fv h0 n0 _ T13.heap _
     rw [e13]
     exact ⟨by rw [own_tok, if_neg hc36_10, own_tok, if_pos (own_big c1 hc27_15)], N12, rfl⟩
 ·skip
  obtain ⟨fs, hr, hrun, hended, hW, hsame⟩ := X4.leave (v := some (.int (0 : Int32))) (fun h => by rw [Bd.returns] at h; cases h)
  refine ⟨_, _, G5 _ ?_, hrun, hended, _, _, rfl, ?_, ⟨_, rfl⟩, hW, hsame.mono (by decide) (by decide)⟩
  ·skip
   refine XS.icmpYes X4.here hx rfl (pc0 := 27) (pc' := 39) rfl (hb hby d8_27) rfl (flt hc27_6).2.1 (by decide) (by decide) ?_
   refine XS.iconst X4.here hx rfl (hb hby d8_39) ?_
   exact retN X4 hx (t := .boolean) Bd.returns (by simp) (hb hby d8_40) hr
  ·show QrmTokL03 Z r0 c0 c1 c2 ta kb tt ct cst fv h0 n0 _ T4.heap _
   rw [e4]
   exact ⟨by rw [own_tok, if_pos (own_big c0 hc27_6)], N3, rfl⟩
def QrmTokL12 (Z : State) (r0 : Addr) (c0 c1 c2 : Int32) (ta : Addr) (kb : ClassId) (tt : Addr) (ct : Cell) (cst : Int32) (fv : Value) (h0 : Heap) (n0 : Nat) (v : Option Value) (h : Heap) (L : List Loc) : Prop := v = some (.int (own_tok [c1])) ∧ Fr n0 L ∧ h = h0
theorem ef_rmTokL12 (m : MethodId) (x0 : Addr) (x1 : Int32) (x2 : Int32) : entryFrame m #[(.ref x0), (.int x1), (.int x2)] 5 = mkF m 0 #[.val (.ref x0), .val (.int x1), .val (.int x2), .unset, .unset] [] := by first | (simp [entryFrame, mkF, argsToLocals, Value.category]; done) | rfl
set_option maxRecDepth 65536 in
set_option maxHeartbeats 40000000 in
theorem rmTokL12 (l : Launch) (Z : State) (a0 : Array Value) (hw : ∀ d ∈ tables_1, d.before a0 Z = true) (ws : List Jvm.Cond) (r0 : Addr) (c0 c1 c2 : Int32) (ta : Addr) (kb : ClassId) (tt : Addr) (ct : Cell) (cst : Int32) (fv : Value) (h0 : Heap) (n0 : Nat) (Z0 : n0 ≤ h0.size) (E0 : Exa Z h0 r0 "java/lang/String") (Fc : Fld Z h0 r0 "java/lang/String" "coder" "B" (.int (0 : Int32))) (Fv : Fld Z h0 r0 "java/lang/String" "value" "[B" (.ref ta)) (V0 : Arv Z h0 ta kb .byte (3 : Int32) [(.int (nar .byte (c0.toInt8.toInt32))), (.int (nar .byte (c1.toInt8.toInt32))), (.int (nar .byte (c2.toInt8.toInt32)))] (.int (0 : Int32))) (O0 : Old Z n0 h0) (hb0 : 0 ≤ c0.toInt ∧ c0.toInt ≤ 65535) (hb1 : 0 ≤ c1.toInt ∧ c1.toInt ≤ 65535) (hb2 : 0 ≤ c2.toInt ∧ c2.toInt ≤ 65535) (hl0 : ¬ ((255 : Int32) < c0)) (hl1 : ¬ ((255 : Int32) < c1)) (hl2 : ¬ ((255 : Int32) < c2)) (TS : Sta Z Z.heap "com/example/wary_bearer/warybearer/http/Http1Reader" "TCHAR" "[Z" (.ref tt)) (TA : Arr Z Z.heap tt ct .boolean) (TS2 : ct.slots.size = (128 : Int32).toNatClampNeg) (TV : ∀ j : Int32, ¬ (j < (0 : Int32)) → j < (128 : Int32) → ct.slots[j.toNatClampNeg]? = some (.int (fisT j))) (SS : Sts Z cst fv) :
  MetFree l (⟨"com/example/wary_bearer/warybearer/http/Http1Reader", "isToken", "(Ljava/lang/String;II)Z"⟩ : MethodName) (head1 (Jvm.Cond.code (⟨"com/example/wary_bearer/warybearer/http/Http1Reader", "isToken", "(Ljava/lang/String;II)Z"⟩ : MethodName) prog_13_method_12_code 5 (some .boolean) :: ws) ({ frames := 5, cells := 0, slots := 0, locals := 66 } : Room)) (fun a U => a = #[(.ref r0), (.int (1 : Int32)), (.int (2 : Int32))] ∧ Z.Warmed39 U.vm ∧ U.heap = h0) (fun _ _ _ _ _ => True) (fun _ U o U' => ∃ v L, o = .returned v ∧ QrmTokL12 Z r0 c0 c1 c2 ta kb tt ct cst fv h0 n0 v U'.heap L ∧ FrameEnd U o U' L ({ frames := 5, cells := 0, slots := 0, locals := 66 } : Room).cells ({ frames := 5, cells := 0, slots := 0, locals := 66 } : Room).slots) := by
 refine MetFree.of_bodySF (plainFor_of_name pnc_com_example_wary_bearer_warybearer_http_Http1Reader) hisR ?_
 intro p e s m args below meth c s₁ Bd hml0 hP hK
 obtain ⟨rfl, hZ, hh⟩ := hP
 have hx := Bd.exec
 have hby := Bd.bytes
 have hml : c.maxLocals = 5 := hml0
 have hown : s.vm.findClass "com/example/wary_bearer/warybearer/http/Http1Reader" = some m.cls := findClass_of_methodNamed Bd.named
 have hnm := (name_of_methodNamed Bd.named Bd.method).1
 have X0 : Stand p l e ({ frames := 5, cells := 0, slots := 0, locals := 66 } : Room) s m #[(.ref r0), (.int (1 : Int32)), (.int (2 : Int32))] below meth c s₁ [] 0 0 := Stand.of_body Bd
 have e0 : s₁.heap = h0 := by rw [← hh, Bd.state]; rfl
 have N0 := Fr.nil n0
 have kp0 : Keep h0 h0 [] := Keep.refl _ _
 have G0 : ∀ t, Steps p.tables e below (s₁.setTop (mkF m 0 #[rv r0, iv 1, iv 2, .unset, .unset] [])) t → Steps p.tables e below (s₁.setTop (entryFrame m #[(.ref r0), (.int (1 : Int32)), (.int (2 : Int32))] 5)) t := fun t k => castTop (ef_rmTokL12 m r0 (1 : Int32) (2 : Int32)) k
 have G1 : ∀ t, Steps p.tables e below (s₁.setTop (mkF m 2 #[rv r0, iv 1, iv 2, .unset, .unset] [(.int (2 : Int32)), (.int (1 : Int32))])) t → Steps p.tables e below (s₁.setTop (entryFrame m #[(.ref r0), (.int (1 : Int32)), (.int (2 : Int32))] 5)) t := by
  intro t kt
  refine G0 _ ?_
  refine XS.iloadN X0.here hx rfl (hb hby d8_0) rfl ?_
  refine XS.iloadN X0.here hx rfl (hb hby d8_1) rfl ?_
  exact kt
 have G2 : ∀ t, Steps p.tables e below (s₁.setTop (mkF m 11 #[rv r0, iv 1, iv 2, iv 1, .unset] [(.int (2 : Int32)), (.int (1 : Int32))])) t → Steps p.tables e below (s₁.setTop (entryFrame m #[(.ref r0), (.int (1 : Int32)), (.int (2 : Int32))] 5)) t := by
  intro t kt
  refine G1 _ ?_
  refine XS.icmpYes X0.here hx rfl (pc0 := 2) (pc' := 7) rfl (hb hby d8_2) rfl (tlt (by decide)).1 (by decide) (by decide) ?_
  refine XS.iloadN X0.here hx rfl (hb hby d8_7) rfl ?_
  refine XS.istoreN X0.here hx rfl (hb hby d8_8) rfl (l' := #[rv r0, iv 1, iv 2, iv 1, .unset]) rfl ?_
  refine XS.iloadN X0.here hx rfl (hb hby d8_9) rfl ?_
  refine XS.iloadN X0.here hx rfl (hb hby d8_10) rfl ?_
  exact kt
 obtain ⟨cq3, kq3, q3a, q3b, q3c⟩ := isOf hZ e0 E0
 obtain ⟨_, _, ⟨T3, L3, k3, n3⟩, -, X3, ⟨Lc3, hQ3, l3, y3, z3⟩, st3⟩ := X0.virtualBack hx (y := (⟨"java/lang/String", "charAt", "(I)C"⟩ : MethodName)) (z := (⟨"java/lang/String", "charAt", "(I)C"⟩ : MethodName)) hown (mvT hZ (hw _ (List.mem_of_getElem? (i := 62) rfl))) (mvT hZ (hw _ (List.mem_of_getElem? (i := 63) rfl))) (notFace_of_selects (args := #[]) (mvT hZ (hw _ (List.mem_of_getElem? (i := 65) rfl)))) (mvT hZ (hw _ (List.mem_of_getElem? (i := 65) rfl))) (mvT hZ (hw _ (List.mem_of_getElem? (i := 64) rfl))) (by decide) (backOf (W := 0) (rmChL l Z a0 hw [] r0 (1 : Int32) ta kb (3 : Int32) [(.int (nar .byte (c0.toInt8.toInt32))), (.int (nar .byte (c1.toInt8.toInt32))), (.int (nar .byte (c2.toInt8.toInt32)))] (nar .byte (c1.toInt8.toInt32)) c1 cst fv h0 n0 Z0 E0 Fc Fv V0 O0 (by decide) (by decide) rfl (own_lat c1 hb1 hl1) SS) hZ (hw _ (List.mem_of_getElem? (i := 66) rfl)) (hw _ (List.mem_of_getElem? (i := 8) rfl)) (by decide) (by decide)) q3a q3c (g := (mkF m 16 #[rv r0, iv 1, iv 2, iv 1, .unset] [(.int (1 : Int32)), (.ref r0)])) rfl (by rw [hml]; rfl) (Steps.refl _) (argsL := [(.int (1 : Int32))]) (rest := []) (lenOf pd_13 rfl) rfl (by show 2 * 0 + _ ≤ _; exact Nat.le_of_eq rfl) (hb hby d8_16) (fun _ _ => ⟨rfl, e0, (by decide : 0 + 0 ≤ _), (by decide : 0 + 0 ≤ _)⟩)
 dsimp only [Pt.U, Pt.locs, Pt.cells, Pt.slots] at X3 l3 y3 z3 st3 hQ3
 subst l3 y3 z3
 obtain ⟨rfl, N3q, eh3⟩ := hQ3
 have N3 := Fr.app N0 N3q
 obtain ⟨T4, X4, e4, st4⟩ := getS2 X3 hx hZ hown (host := "") (Or.inl (hw _ (List.mem_of_getElem? (i := 89) rfl))) Via.refl eh3 (TS.ext O0.2) (g := (mkF m 23 #[rv r0, iv 1, iv 2, iv 1, iv c1] [(.int c1)])) rfl (hb hby d8_23)
 have G5 : ∀ t, Steps p.tables e below (T4.setTop (mkF m 27 #[rv r0, iv 1, iv 2, iv 1, iv c1] [(.int (128 : Int32)), (.int c1)])) t → Steps p.tables e below (s₁.setTop (entryFrame m #[(.ref r0), (.int (1 : Int32)), (.int (2 : Int32))] 5)) t := by
  intro t kt
  refine G2 _ ?_
  refine XS.icmpNo X0.here hx rfl (hb hby d8_11) rfl (tlt (by decide)).2.1 ?_
  refine XS.aloadN X0.here hx rfl (hb hby d8_14) rfl rfl ?_
  refine XS.iloadN X0.here hx rfl (hb hby d8_15) rfl ?_
  refine st3.trans ?_
  refine XS.istore X3.here hx rfl (hb hby d8_19) rfl (l' := #[rv r0, iv 1, iv 2, iv 1, iv c1]) rfl ?_
  refine XS.iload X3.here hx rfl (hb hby d8_21) rfl ?_
  refine st4 _ ?_
  refine X4.arraylength hx (by rw [e4]; exact (TA.ext O0.2).1) (State.isArrayOf_alike hZ.alike (TA.ext O0.2).2.1) (g := (mkF m 26 #[rv r0, iv 1, iv 2, iv 1, iv c1] [(.ref tt), (.int c1)])) rfl rfl (hb hby d8_26) _ ?_
  rw [len_of TS2 (by decide)]
  exact kt
 by_cases hc27_6 : c1 < (128 : Int32)
 ·skip
  obtain ⟨T7, X7, e7, st7⟩ := getS2 X4 hx hZ hown (host := "") (Or.inl (hw _ (List.mem_of_getElem? (i := 89) rfl))) Via.refl e4 (TS.ext O0.2) (g := (mkF m 30 #[rv r0, iv 1, iv 2, iv 1, iv c1] [])) rfl (hb hby d8_30)
  have hn8 : ¬ (c1 < (0 : Int32)) := by rw [Int32.lt_iff_toInt_lt]; exact Int.not_lt.mpr hb1.1
  have hin8 : ¬ (c1 < 0 ∨ ct.slots.size ≤ (c1).toNatClampNeg) := inb_of TS2 ⟨hn8, hc27_6⟩
  have hat8 := TV c1 hn8 hc27_6
  have G9 : ∀ t, Steps p.tables e below (T7.setTop (mkF m 36 #[rv r0, iv 1, iv 2, iv 1, iv c1] [(.int (fisT c1))])) t → Steps p.tables e below (s₁.setTop (entryFrame m #[(.ref r0), (.int (1 : Int32)), (.int (2 : Int32))] 5)) t := by
   intro t kt
   refine G5 _ ?_
   refine XS.icmpNo X4.here hx rfl (hb hby d8_27) rfl (tlt hc27_6).2.1 ?_
   refine st7 _ ?_
   refine XS.iload X7.here hx rfl (hb hby d8_33) rfl ?_
   refine X7.baloadBooleans hx (j := c1) (v := (.int (fisT c1))) (by rw [e7]; exact (TA.ext O0.2).1) (State.isArrayOf_alike hZ.alike (TA.ext O0.2).2.1) (TA.ext O0.2).2.2 hin8 hat8 (g := (mkF m 35 #[rv r0, iv 1, iv 2, iv 1, iv c1] [(.int c1), (.ref tt)])) rfl rfl (hb hby d8_35) _ ?_
   exact kt
  by_cases hc36_10 : (fisT c1) = (0 : Int32)
  ·skip
   obtain ⟨fs, hr, hrun, hended, hW, hsame⟩ := X7.leave (v := some (.int (0 : Int32))) (fun h => by rw [Bd.returns] at h; cases h)
   refine ⟨_, _, G9 _ ?_, hrun, hended, _, _, rfl, ?_, ⟨_, rfl⟩, hW, hsame.mono (by decide) (by decide)⟩
   ·skip
    refine XS.ifNo X7.here hx rfl (hb hby d8_36) rfl ((if0 _ _).trans (teq hc36_10).2) ?_
    refine XS.iconst X7.here hx rfl (hb hby d8_39) ?_
    exact retN X7 hx (t := .boolean) Bd.returns (by simp) (hb hby d8_40) hr
   ·show QrmTokL12 Z r0 c0 c1 c2 ta kb tt ct cst fv h0 n0 _ T7.heap _
    rw [e7]
    exact ⟨by rw [own_tok, if_pos hc36_10], N3, rfl⟩
  ·skip
   have G11 : ∀ t, Steps p.tables e below (T7.setTop (mkF m 11 #[rv r0, iv 1, iv 2, iv 2, iv c1] [(.int (2 : Int32)), (.int (2 : Int32))])) t → Steps p.tables e below (s₁.setTop (entryFrame m #[(.ref r0), (.int (1 : Int32)), (.int (2 : Int32))] 5)) t := by
    intro t kt
    refine G9 _ ?_
    refine XS.ifYes X7.here hx rfl (pc0 := 36) (pc' := 41) rfl (hb hby d8_36) rfl ((if0 _ _).trans (feq hc36_10).2) (by decide) (by decide) ?_
    refine XS.iinc X7.here hx rfl (hb hby d8_41) rfl (l' := #[rv r0, iv 1, iv 2, iv 2, iv c1]) rfl ?_
    refine XS.goto X7.here hx rfl (pc0 := 44) (pc' := 9) rfl (hb hby d8_44) (by decide) (by decide) ?_
    refine XS.iloadN X7.here hx rfl (hb hby d8_9) rfl ?_
    show Steps p.tables e below (T7.setTop (mkF m 10 #[rv r0, iv 1, iv 2, iv 2, iv c1] [(.int (2 : Int32))])) _
    refine XS.iloadN X7.here hx rfl (hb hby d8_10) rfl ?_
    exact kt
   obtain ⟨fs, hr, hrun, hended, hW, hsame⟩ := X7.leave (v := some (.int (1 : Int32))) (fun h => by rw [Bd.returns] at h; cases h)
   refine ⟨_, _, G11 _ ?_, hrun, hended, _, _, rfl, ?_, ⟨_, rfl⟩, hW, hsame.mono (by decide) (by decide)⟩
   ·skip
    refine XS.icmpYes X7.here hx rfl (pc0 := 11) (pc' := 47) rfl (hb hby d8_11) rfl (flt (by decide)).2.1 (by decide) (by decide) ?_
    refine XS.iconst X7.here hx rfl (hb hby d8_47) ?_
    exact retN X7 hx (t := .boolean) Bd.returns (by simp) (hb hby d8_48) hr
   ·show QrmTokL12 Z r0 c0 c1 c2 ta kb tt ct cst fv h0 n0 _ T7.heap _
    rw [e7]
    exact ⟨by rw [own_tok, if_neg hc36_10, own_tok], N3, rfl⟩
 ·skip
  obtain ⟨fs, hr, hrun, hended, hW, hsame⟩ := X4.leave (v := some (.int (0 : Int32))) (fun h => by rw [Bd.returns] at h; cases h)
  refine ⟨_, _, G5 _ ?_, hrun, hended, _, _, rfl, ?_, ⟨_, rfl⟩, hW, hsame.mono (by decide) (by decide)⟩
  ·skip
   refine XS.icmpYes X4.here hx rfl (pc0 := 27) (pc' := 39) rfl (hb hby d8_27) rfl (flt hc27_6).2.1 (by decide) (by decide) ?_
   refine XS.iconst X4.here hx rfl (hb hby d8_39) ?_
   exact retN X4 hx (t := .boolean) Bd.returns (by simp) (hb hby d8_40) hr
  ·show QrmTokL12 Z r0 c0 c1 c2 ta kb tt ct cst fv h0 n0 _ T4.heap _
   rw [e4]
   exact ⟨by rw [own_tok, if_pos (own_big c1 hc27_6)], N3, rfl⟩
def QrmTokL13 (Z : State) (r0 : Addr) (c0 c1 c2 : Int32) (ta : Addr) (kb : ClassId) (tt : Addr) (ct : Cell) (cst : Int32) (fv : Value) (h0 : Heap) (n0 : Nat) (v : Option Value) (h : Heap) (L : List Loc) : Prop := v = some (.int (own_tok [c1, c2])) ∧ Fr n0 L ∧ h = h0
theorem ef_rmTokL13 (m : MethodId) (x0 : Addr) (x1 : Int32) (x2 : Int32) : entryFrame m #[(.ref x0), (.int x1), (.int x2)] 5 = mkF m 0 #[.val (.ref x0), .val (.int x1), .val (.int x2), .unset, .unset] [] := by first | (simp [entryFrame, mkF, argsToLocals, Value.category]; done) | rfl
set_option maxRecDepth 65536 in
set_option maxHeartbeats 40000000 in
theorem rmTokL13 (l : Launch) (Z : State) (a0 : Array Value) (hw : ∀ d ∈ tables_1, d.before a0 Z = true) (ws : List Jvm.Cond) (r0 : Addr) (c0 c1 c2 : Int32) (ta : Addr) (kb : ClassId) (tt : Addr) (ct : Cell) (cst : Int32) (fv : Value) (h0 : Heap) (n0 : Nat) (Z0 : n0 ≤ h0.size) (E0 : Exa Z h0 r0 "java/lang/String") (Fc : Fld Z h0 r0 "java/lang/String" "coder" "B" (.int (0 : Int32))) (Fv : Fld Z h0 r0 "java/lang/String" "value" "[B" (.ref ta)) (V0 : Arv Z h0 ta kb .byte (3 : Int32) [(.int (nar .byte (c0.toInt8.toInt32))), (.int (nar .byte (c1.toInt8.toInt32))), (.int (nar .byte (c2.toInt8.toInt32)))] (.int (0 : Int32))) (O0 : Old Z n0 h0) (hb0 : 0 ≤ c0.toInt ∧ c0.toInt ≤ 65535) (hb1 : 0 ≤ c1.toInt ∧ c1.toInt ≤ 65535) (hb2 : 0 ≤ c2.toInt ∧ c2.toInt ≤ 65535) (hl0 : ¬ ((255 : Int32) < c0)) (hl1 : ¬ ((255 : Int32) < c1)) (hl2 : ¬ ((255 : Int32) < c2)) (TS : Sta Z Z.heap "com/example/wary_bearer/warybearer/http/Http1Reader" "TCHAR" "[Z" (.ref tt)) (TA : Arr Z Z.heap tt ct .boolean) (TS2 : ct.slots.size = (128 : Int32).toNatClampNeg) (TV : ∀ j : Int32, ¬ (j < (0 : Int32)) → j < (128 : Int32) → ct.slots[j.toNatClampNeg]? = some (.int (fisT j))) (SS : Sts Z cst fv) :
  MetFree l (⟨"com/example/wary_bearer/warybearer/http/Http1Reader", "isToken", "(Ljava/lang/String;II)Z"⟩ : MethodName) (head1 (Jvm.Cond.code (⟨"com/example/wary_bearer/warybearer/http/Http1Reader", "isToken", "(Ljava/lang/String;II)Z"⟩ : MethodName) prog_13_method_12_code 5 (some .boolean) :: ws) ({ frames := 5, cells := 0, slots := 0, locals := 66 } : Room)) (fun a U => a = #[(.ref r0), (.int (1 : Int32)), (.int (3 : Int32))] ∧ Z.Warmed39 U.vm ∧ U.heap = h0) (fun _ _ _ _ _ => True) (fun _ U o U' => ∃ v L, o = .returned v ∧ QrmTokL13 Z r0 c0 c1 c2 ta kb tt ct cst fv h0 n0 v U'.heap L ∧ FrameEnd U o U' L ({ frames := 5, cells := 0, slots := 0, locals := 66 } : Room).cells ({ frames := 5, cells := 0, slots := 0, locals := 66 } : Room).slots) := by
 refine MetFree.of_bodySF (plainFor_of_name pnc_com_example_wary_bearer_warybearer_http_Http1Reader) hisR ?_
 intro p e s m args below meth c s₁ Bd hml0 hP hK
 obtain ⟨rfl, hZ, hh⟩ := hP
 have hx := Bd.exec
 have hby := Bd.bytes
 have hml : c.maxLocals = 5 := hml0
 have hown : s.vm.findClass "com/example/wary_bearer/warybearer/http/Http1Reader" = some m.cls := findClass_of_methodNamed Bd.named
 have hnm := (name_of_methodNamed Bd.named Bd.method).1
 have X0 : Stand p l e ({ frames := 5, cells := 0, slots := 0, locals := 66 } : Room) s m #[(.ref r0), (.int (1 : Int32)), (.int (3 : Int32))] below meth c s₁ [] 0 0 := Stand.of_body Bd
 have e0 : s₁.heap = h0 := by rw [← hh, Bd.state]; rfl
 have N0 := Fr.nil n0
 have kp0 : Keep h0 h0 [] := Keep.refl _ _
 have G0 : ∀ t, Steps p.tables e below (s₁.setTop (mkF m 0 #[rv r0, iv 1, iv 3, .unset, .unset] [])) t → Steps p.tables e below (s₁.setTop (entryFrame m #[(.ref r0), (.int (1 : Int32)), (.int (3 : Int32))] 5)) t := fun t k => castTop (ef_rmTokL13 m r0 (1 : Int32) (3 : Int32)) k
 have G1 : ∀ t, Steps p.tables e below (s₁.setTop (mkF m 2 #[rv r0, iv 1, iv 3, .unset, .unset] [(.int (3 : Int32)), (.int (1 : Int32))])) t → Steps p.tables e below (s₁.setTop (entryFrame m #[(.ref r0), (.int (1 : Int32)), (.int (3 : Int32))] 5)) t := by
  intro t kt
  refine G0 _ ?_
  refine XS.iloadN X0.here hx rfl (hb hby d8_0) rfl ?_
  refine XS.iloadN X0.here hx rfl (hb hby d8_1) rfl ?_
  exact kt
 have G2 : ∀ t, Steps p.tables e below (s₁.setTop (mkF m 11 #[rv r0, iv 1, iv 3, iv 1, .unset] [(.int (3 : Int32)), (.int (1 : Int32))])) t → Steps p.tables e below (s₁.setTop (entryFrame m #[(.ref r0), (.int (1 : Int32)), (.int (3 : Int32))] 5)) t := by
  intro t kt
  refine G1 _ ?_
  refine XS.icmpYes X0.here hx rfl (pc0 := 2) (pc' := 7) rfl (hb hby d8_2) rfl (tlt (by decide)).1 (by decide) (by decide) ?_
  refine XS.iloadN X0.here hx rfl (hb hby d8_7) rfl ?_
  refine XS.istoreN X0.here hx rfl (hb hby d8_8) rfl (l' := #[rv r0, iv 1, iv 3, iv 1, .unset]) rfl ?_
  refine XS.iloadN X0.here hx rfl (hb hby d8_9) rfl ?_
  refine XS.iloadN X0.here hx rfl (hb hby d8_10) rfl ?_
  exact kt
 obtain ⟨cq3, kq3, q3a, q3b, q3c⟩ := isOf hZ e0 E0
 obtain ⟨_, _, ⟨T3, L3, k3, n3⟩, -, X3, ⟨Lc3, hQ3, l3, y3, z3⟩, st3⟩ := X0.virtualBack hx (y := (⟨"java/lang/String", "charAt", "(I)C"⟩ : MethodName)) (z := (⟨"java/lang/String", "charAt", "(I)C"⟩ : MethodName)) hown (mvT hZ (hw _ (List.mem_of_getElem? (i := 62) rfl))) (mvT hZ (hw _ (List.mem_of_getElem? (i := 63) rfl))) (notFace_of_selects (args := #[]) (mvT hZ (hw _ (List.mem_of_getElem? (i := 65) rfl)))) (mvT hZ (hw _ (List.mem_of_getElem? (i := 65) rfl))) (mvT hZ (hw _ (List.mem_of_getElem? (i := 64) rfl))) (by decide) (backOf (W := 0) (rmChL l Z a0 hw [] r0 (1 : Int32) ta kb (3 : Int32) [(.int (nar .byte (c0.toInt8.toInt32))), (.int (nar .byte (c1.toInt8.toInt32))), (.int (nar .byte (c2.toInt8.toInt32)))] (nar .byte (c1.toInt8.toInt32)) c1 cst fv h0 n0 Z0 E0 Fc Fv V0 O0 (by decide) (by decide) rfl (own_lat c1 hb1 hl1) SS) hZ (hw _ (List.mem_of_getElem? (i := 66) rfl)) (hw _ (List.mem_of_getElem? (i := 8) rfl)) (by decide) (by decide)) q3a q3c (g := (mkF m 16 #[rv r0, iv 1, iv 3, iv 1, .unset] [(.int (1 : Int32)), (.ref r0)])) rfl (by rw [hml]; rfl) (Steps.refl _) (argsL := [(.int (1 : Int32))]) (rest := []) (lenOf pd_13 rfl) rfl (by show 2 * 0 + _ ≤ _; exact Nat.le_of_eq rfl) (hb hby d8_16) (fun _ _ => ⟨rfl, e0, (by decide : 0 + 0 ≤ _), (by decide : 0 + 0 ≤ _)⟩)
 dsimp only [Pt.U, Pt.locs, Pt.cells, Pt.slots] at X3 l3 y3 z3 st3 hQ3
 subst l3 y3 z3
 obtain ⟨rfl, N3q, eh3⟩ := hQ3
 have N3 := Fr.app N0 N3q
 obtain ⟨T4, X4, e4, st4⟩ := getS2 X3 hx hZ hown (host := "") (Or.inl (hw _ (List.mem_of_getElem? (i := 89) rfl))) Via.refl eh3 (TS.ext O0.2) (g := (mkF m 23 #[rv r0, iv 1, iv 3, iv 1, iv c1] [(.int c1)])) rfl (hb hby d8_23)
 have G5 : ∀ t, Steps p.tables e below (T4.setTop (mkF m 27 #[rv r0, iv 1, iv 3, iv 1, iv c1] [(.int (128 : Int32)), (.int c1)])) t → Steps p.tables e below (s₁.setTop (entryFrame m #[(.ref r0), (.int (1 : Int32)), (.int (3 : Int32))] 5)) t := by
  intro t kt
  refine G2 _ ?_
  refine XS.icmpNo X0.here hx rfl (hb hby d8_11) rfl (tlt (by decide)).2.1 ?_
  refine XS.aloadN X0.here hx rfl (hb hby d8_14) rfl rfl ?_
  refine XS.iloadN X0.here hx rfl (hb hby d8_15) rfl ?_
  refine st3.trans ?_
  refine XS.istore X3.here hx rfl (hb hby d8_19) rfl (l' := #[rv r0, iv 1, iv 3, iv 1, iv c1]) rfl ?_
  refine XS.iload X3.here hx rfl (hb hby d8_21) rfl ?_
  refine st4 _ ?_
  refine X4.arraylength hx (by rw [e4]; exact (TA.ext O0.2).1) (State.isArrayOf_alike hZ.alike (TA.ext O0.2).2.1) (g := (mkF m 26 #[rv r0, iv 1, iv 3, iv 1, iv c1] [(.ref tt), (.int c1)])) rfl rfl (hb hby d8_26) _ ?_
  rw [len_of TS2 (by decide)]
  exact kt
 by_cases hc27_6 : c1 < (128 : Int32)
 ·skip
  obtain ⟨T7, X7, e7, st7⟩ := getS2 X4 hx hZ hown (host := "") (Or.inl (hw _ (List.mem_of_getElem? (i := 89) rfl))) Via.refl e4 (TS.ext O0.2) (g := (mkF m 30 #[rv r0, iv 1, iv 3, iv 1, iv c1] [])) rfl (hb hby d8_30)
  have hn8 : ¬ (c1 < (0 : Int32)) := by rw [Int32.lt_iff_toInt_lt]; exact Int.not_lt.mpr hb1.1
  have hin8 : ¬ (c1 < 0 ∨ ct.slots.size ≤ (c1).toNatClampNeg) := inb_of TS2 ⟨hn8, hc27_6⟩
  have hat8 := TV c1 hn8 hc27_6
  have G9 : ∀ t, Steps p.tables e below (T7.setTop (mkF m 36 #[rv r0, iv 1, iv 3, iv 1, iv c1] [(.int (fisT c1))])) t → Steps p.tables e below (s₁.setTop (entryFrame m #[(.ref r0), (.int (1 : Int32)), (.int (3 : Int32))] 5)) t := by
   intro t kt
   refine G5 _ ?_
   refine XS.icmpNo X4.here hx rfl (hb hby d8_27) rfl (tlt hc27_6).2.1 ?_
   refine st7 _ ?_
   refine XS.iload X7.here hx rfl (hb hby d8_33) rfl ?_
   refine X7.baloadBooleans hx (j := c1) (v := (.int (fisT c1))) (by rw [e7]; exact (TA.ext O0.2).1) (State.isArrayOf_alike hZ.alike (TA.ext O0.2).2.1) (TA.ext O0.2).2.2 hin8 hat8 (g := (mkF m 35 #[rv r0, iv 1, iv 3, iv 1, iv c1] [(.int c1), (.ref tt)])) rfl rfl (hb hby d8_35) _ ?_
   exact kt
  by_cases hc36_10 : (fisT c1) = (0 : Int32)
  ·skip
   obtain ⟨fs, hr, hrun, hended, hW, hsame⟩ := X7.leave (v := some (.int (0 : Int32))) (fun h => by rw [Bd.returns] at h; cases h)
   refine ⟨_, _, G9 _ ?_, hrun, hended, _, _, rfl, ?_, ⟨_, rfl⟩, hW, hsame.mono (by decide) (by decide)⟩
   ·skip
    refine XS.ifNo X7.here hx rfl (hb hby d8_36) rfl ((if0 _ _).trans (teq hc36_10).2) ?_
    refine XS.iconst X7.here hx rfl (hb hby d8_39) ?_
    exact retN X7 hx (t := .boolean) Bd.returns (by simp) (hb hby d8_40) hr
   ·show QrmTokL13 Z r0 c0 c1 c2 ta kb tt ct cst fv h0 n0 _ T7.heap _
    rw [e7]
    exact ⟨by rw [own_tok, if_pos hc36_10], N3, rfl⟩
  ·skip
   have G11 : ∀ t, Steps p.tables e below (T7.setTop (mkF m 11 #[rv r0, iv 1, iv 3, iv 2, iv c1] [(.int (3 : Int32)), (.int (2 : Int32))])) t → Steps p.tables e below (s₁.setTop (entryFrame m #[(.ref r0), (.int (1 : Int32)), (.int (3 : Int32))] 5)) t := by
    intro t kt
    refine G9 _ ?_
    refine XS.ifYes X7.here hx rfl (pc0 := 36) (pc' := 41) rfl (hb hby d8_36) rfl ((if0 _ _).trans (feq hc36_10).2) (by decide) (by decide) ?_
    refine XS.iinc X7.here hx rfl (hb hby d8_41) rfl (l' := #[rv r0, iv 1, iv 3, iv 2, iv c1]) rfl ?_
    refine XS.goto X7.here hx rfl (pc0 := 44) (pc' := 9) rfl (hb hby d8_44) (by decide) (by decide) ?_
    refine XS.iloadN X7.here hx rfl (hb hby d8_9) rfl ?_
    show Steps p.tables e below (T7.setTop (mkF m 10 #[rv r0, iv 1, iv 3, iv 2, iv c1] [(.int (2 : Int32))])) _
    refine XS.iloadN X7.here hx rfl (hb hby d8_10) rfl ?_
    exact kt
   obtain ⟨cq12, kq12, q12a, q12b, q12c⟩ := isOf hZ e7 E0
   obtain ⟨_, _, ⟨T12, L12, k12, n12⟩, -, X12, ⟨Lc12, hQ12, l12, y12, z12⟩, st12⟩ := X7.virtualBack hx (y := (⟨"java/lang/String", "charAt", "(I)C"⟩ : MethodName)) (z := (⟨"java/lang/String", "charAt", "(I)C"⟩ : MethodName)) hown (mvT hZ (hw _ (List.mem_of_getElem? (i := 62) rfl))) (mvT hZ (hw _ (List.mem_of_getElem? (i := 63) rfl))) (notFace_of_selects (args := #[]) (mvT hZ (hw _ (List.mem_of_getElem? (i := 65) rfl)))) (mvT hZ (hw _ (List.mem_of_getElem? (i := 65) rfl))) (mvT hZ (hw _ (List.mem_of_getElem? (i := 64) rfl))) (by decide) (backOf (W := 0) (rmChL l Z a0 hw [] r0 (2 : Int32) ta kb (3 : Int32) [(.int (nar .byte (c0.toInt8.toInt32))), (.int (nar .byte (c1.toInt8.toInt32))), (.int (nar .byte (c2.toInt8.toInt32)))] (nar .byte (c2.toInt8.toInt32)) c2 cst fv h0 n0 Z0 E0 Fc Fv V0 O0 (by decide) (by decide) rfl (own_lat c2 hb2 hl2) SS) hZ (hw _ (List.mem_of_getElem? (i := 66) rfl)) (hw _ (List.mem_of_getElem? (i := 8) rfl)) (by decide) (by decide)) q12a q12c (g := (mkF m 16 #[rv r0, iv 1, iv 3, iv 2, iv c1] [(.int (2 : Int32)), (.ref r0)])) rfl (by rw [hml]; rfl) (Steps.refl _) (argsL := [(.int (2 : Int32))]) (rest := []) (lenOf pd_13 rfl) rfl (by show 2 * 0 + _ ≤ _; exact Nat.le_of_eq rfl) (hb hby d8_16) (fun _ _ => ⟨rfl, e7, (by decide : 0 + 0 ≤ _), (by decide : 0 + 0 ≤ _)⟩)
   dsimp only [Pt.U, Pt.locs, Pt.cells, Pt.slots] at X12 l12 y12 z12 st12 hQ12
   subst l12 y12 z12
   obtain ⟨rfl, N12q, eh12⟩ := hQ12
   have N12 := Fr.app N3 N12q
   obtain ⟨T13, X13, e13, st13⟩ := getS2 X12 hx hZ hown (host := "") (Or.inl (hw _ (List.mem_of_getElem? (i := 89) rfl))) Via.refl eh12 (TS.ext O0.2) (g := (mkF m 23 #[rv r0, iv 1, iv 3, iv 2, iv c2] [(.int c2)])) rfl (hb hby d8_23)
   have G14 : ∀ t, Steps p.tables e below (T13.setTop (mkF m 27 #[rv r0, iv 1, iv 3, iv 2, iv c2] [(.int (128 : Int32)), (.int c2)])) t → Steps p.tables e below (s₁.setTop (entryFrame m #[(.ref r0), (.int (1 : Int32)), (.int (3 : Int32))] 5)) t := by
    intro t kt
    refine G11 _ ?_
    refine XS.icmpNo X7.here hx rfl (hb hby d8_11) rfl (tlt (by decide)).2.1 ?_
    refine XS.aloadN X7.here hx rfl (hb hby d8_14) rfl rfl ?_
    refine XS.iloadN X7.here hx rfl (hb hby d8_15) rfl ?_
    refine st12.trans ?_
    refine XS.istore X12.here hx rfl (hb hby d8_19) rfl (l' := #[rv r0, iv 1, iv 3, iv 2, iv c2]) rfl ?_
    refine XS.iload X12.here hx rfl (hb hby d8_21) rfl ?_
    refine st13 _ ?_
    refine X13.arraylength hx (by rw [e13]; exact (TA.ext O0.2).1) (State.isArrayOf_alike hZ.alike (TA.ext O0.2).2.1) (g := (mkF m 26 #[rv r0, iv 1, iv 3, iv 2, iv c2] [(.ref tt), (.int c2)])) rfl rfl (hb hby d8_26) _ ?_
    rw [len_of TS2 (by decide)]
    exact kt
   by_cases hc27_15 : c2 < (128 : Int32)
   ·skip
    obtain ⟨T16, X16, e16, st16⟩ := getS2 X13 hx hZ hown (host := "") (Or.inl (hw _ (List.mem_of_getElem? (i := 89) rfl))) Via.refl e13 (TS.ext O0.2) (g := (mkF m 30 #[rv r0, iv 1, iv 3, iv 2, iv c2] [])) rfl (hb hby d8_30)
    have hn17 : ¬ (c2 < (0 : Int32)) := by rw [Int32.lt_iff_toInt_lt]; exact Int.not_lt.mpr hb2.1
    have hin17 : ¬ (c2 < 0 ∨ ct.slots.size ≤ (c2).toNatClampNeg) := inb_of TS2 ⟨hn17, hc27_15⟩
    have hat17 := TV c2 hn17 hc27_15
    have G18 : ∀ t, Steps p.tables e below (T16.setTop (mkF m 36 #[rv r0, iv 1, iv 3, iv 2, iv c2] [(.int (fisT c2))])) t → Steps p.tables e below (s₁.setTop (entryFrame m #[(.ref r0), (.int (1 : Int32)), (.int (3 : Int32))] 5)) t := by
     intro t kt
     refine G14 _ ?_
     refine XS.icmpNo X13.here hx rfl (hb hby d8_27) rfl (tlt hc27_15).2.1 ?_
     refine st16 _ ?_
     refine XS.iload X16.here hx rfl (hb hby d8_33) rfl ?_
     refine X16.baloadBooleans hx (j := c2) (v := (.int (fisT c2))) (by rw [e16]; exact (TA.ext O0.2).1) (State.isArrayOf_alike hZ.alike (TA.ext O0.2).2.1) (TA.ext O0.2).2.2 hin17 hat17 (g := (mkF m 35 #[rv r0, iv 1, iv 3, iv 2, iv c2] [(.int c2), (.ref tt)])) rfl rfl (hb hby d8_35) _ ?_
     exact kt
    by_cases hc36_19 : (fisT c2) = (0 : Int32)
    ·skip
     obtain ⟨fs, hr, hrun, hended, hW, hsame⟩ := X16.leave (v := some (.int (0 : Int32))) (fun h => by rw [Bd.returns] at h; cases h)
     refine ⟨_, _, G18 _ ?_, hrun, hended, _, _, rfl, ?_, ⟨_, rfl⟩, hW, hsame.mono (by decide) (by decide)⟩
     ·skip
      refine XS.ifNo X16.here hx rfl (hb hby d8_36) rfl ((if0 _ _).trans (teq hc36_19).2) ?_
      refine XS.iconst X16.here hx rfl (hb hby d8_39) ?_
      exact retN X16 hx (t := .boolean) Bd.returns (by simp) (hb hby d8_40) hr
     ·show QrmTokL13 Z r0 c0 c1 c2 ta kb tt ct cst fv h0 n0 _ T16.heap _
      rw [e16]
      exact ⟨by rw [own_tok, if_neg hc36_10, own_tok, if_pos hc36_19], N12, rfl⟩
    ·skip
     have G20 : ∀ t, Steps p.tables e below (T16.setTop (mkF m 11 #[rv r0, iv 1, iv 3, iv 3, iv c2] [(.int (3 : Int32)), (.int (3 : Int32))])) t → Steps p.tables e below (s₁.setTop (entryFrame m #[(.ref r0), (.int (1 : Int32)), (.int (3 : Int32))] 5)) t := by
      intro t kt
      refine G18 _ ?_
      refine XS.ifYes X16.here hx rfl (pc0 := 36) (pc' := 41) rfl (hb hby d8_36) rfl ((if0 _ _).trans (feq hc36_19).2) (by decide) (by decide) ?_
      refine XS.iinc X16.here hx rfl (hb hby d8_41) rfl (l' := #[rv r0, iv 1, iv 3, iv 3, iv c2]) rfl ?_
      refine XS.goto X16.here hx rfl (pc0 := 44) (pc' := 9) rfl (hb hby d8_44) (by decide) (by decide) ?_
      refine XS.iloadN X16.here hx rfl (hb hby d8_9) rfl ?_
      refine XS.iloadN X16.here hx rfl (hb hby d8_10) rfl ?_
      exact kt
     obtain ⟨fs, hr, hrun, hended, hW, hsame⟩ := X16.leave (v := some (.int (1 : Int32))) (fun h => by rw [Bd.returns] at h; cases h)
     refine ⟨_, _, G20 _ ?_, hrun, hended, _, _, rfl, ?_, ⟨_, rfl⟩, hW, hsame.mono (by decide) (by decide)⟩
     ·skip
      refine XS.icmpYes X16.here hx rfl (pc0 := 11) (pc' := 47) rfl (hb hby d8_11) rfl (flt (by decide)).2.1 (by decide) (by decide) ?_
      refine XS.iconst X16.here hx rfl (hb hby d8_47) ?_
      exact retN X16 hx (t := .boolean) Bd.returns (by simp) (hb hby d8_48) hr
     ·show QrmTokL13 Z r0 c0 c1 c2 ta kb tt ct cst fv h0 n0 _ T16.heap _
      rw [e16]
      exact ⟨by rw [own_tok, if_neg hc36_10, own_tok, if_neg hc36_19, own_tok], N12, rfl⟩
   ·skip
    obtain ⟨fs, hr, hrun, hended, hW, hsame⟩ := X13.leave (v := some (.int (0 : Int32))) (fun h => by rw [Bd.returns] at h; cases h)
    refine ⟨_, _, G14 _ ?_, hrun, hended, _, _, rfl, ?_, ⟨_, rfl⟩, hW, hsame.mono (by decide) (by decide)⟩
    ·skip
     refine XS.icmpYes X13.here hx rfl (pc0 := 27) (pc' := 39) rfl (hb hby d8_27) rfl (flt hc27_15).2.1 (by decide) (by decide) ?_
     refine XS.iconst X13.here hx rfl (hb hby d8_39) ?_
     exact retN X13 hx (t := .boolean) Bd.returns (by simp) (hb hby d8_40) hr
    ·show QrmTokL13 Z r0 c0 c1 c2 ta kb tt ct cst fv h0 n0 _ T13.heap _
     rw [e13]
     exact ⟨by rw [own_tok, if_neg hc36_10, own_tok, if_pos (own_big c2 hc27_15)], N12, rfl⟩
 ·skip
  obtain ⟨fs, hr, hrun, hended, hW, hsame⟩ := X4.leave (v := some (.int (0 : Int32))) (fun h => by rw [Bd.returns] at h; cases h)
  refine ⟨_, _, G5 _ ?_, hrun, hended, _, _, rfl, ?_, ⟨_, rfl⟩, hW, hsame.mono (by decide) (by decide)⟩
  ·skip
   refine XS.icmpYes X4.here hx rfl (pc0 := 27) (pc' := 39) rfl (hb hby d8_27) rfl (flt hc27_6).2.1 (by decide) (by decide) ?_
   refine XS.iconst X4.here hx rfl (hb hby d8_39) ?_
   exact retN X4 hx (t := .boolean) Bd.returns (by simp) (hb hby d8_40) hr
  ·show QrmTokL13 Z r0 c0 c1 c2 ta kb tt ct cst fv h0 n0 _ T4.heap _
   rw [e4]
   exact ⟨by rw [own_tok, if_pos (own_big c1 hc27_6)], N3, rfl⟩
def QrmTokL23 (Z : State) (r0 : Addr) (c0 c1 c2 : Int32) (ta : Addr) (kb : ClassId) (tt : Addr) (ct : Cell) (cst : Int32) (fv : Value) (h0 : Heap) (n0 : Nat) (v : Option Value) (h : Heap) (L : List Loc) : Prop := v = some (.int (own_tok [c2])) ∧ Fr n0 L ∧ h = h0
theorem ef_rmTokL23 (m : MethodId) (x0 : Addr) (x1 : Int32) (x2 : Int32) : entryFrame m #[(.ref x0), (.int x1), (.int x2)] 5 = mkF m 0 #[.val (.ref x0), .val (.int x1), .val (.int x2), .unset, .unset] [] := by first | (simp [entryFrame, mkF, argsToLocals, Value.category]; done) | rfl
set_option maxRecDepth 65536 in
set_option maxHeartbeats 40000000 in
theorem rmTokL23 (l : Launch) (Z : State) (a0 : Array Value) (hw : ∀ d ∈ tables_1, d.before a0 Z = true) (ws : List Jvm.Cond) (r0 : Addr) (c0 c1 c2 : Int32) (ta : Addr) (kb : ClassId) (tt : Addr) (ct : Cell) (cst : Int32) (fv : Value) (h0 : Heap) (n0 : Nat) (Z0 : n0 ≤ h0.size) (E0 : Exa Z h0 r0 "java/lang/String") (Fc : Fld Z h0 r0 "java/lang/String" "coder" "B" (.int (0 : Int32))) (Fv : Fld Z h0 r0 "java/lang/String" "value" "[B" (.ref ta)) (V0 : Arv Z h0 ta kb .byte (3 : Int32) [(.int (nar .byte (c0.toInt8.toInt32))), (.int (nar .byte (c1.toInt8.toInt32))), (.int (nar .byte (c2.toInt8.toInt32)))] (.int (0 : Int32))) (O0 : Old Z n0 h0) (hb0 : 0 ≤ c0.toInt ∧ c0.toInt ≤ 65535) (hb1 : 0 ≤ c1.toInt ∧ c1.toInt ≤ 65535) (hb2 : 0 ≤ c2.toInt ∧ c2.toInt ≤ 65535) (hl0 : ¬ ((255 : Int32) < c0)) (hl1 : ¬ ((255 : Int32) < c1)) (hl2 : ¬ ((255 : Int32) < c2)) (TS : Sta Z Z.heap "com/example/wary_bearer/warybearer/http/Http1Reader" "TCHAR" "[Z" (.ref tt)) (TA : Arr Z Z.heap tt ct .boolean) (TS2 : ct.slots.size = (128 : Int32).toNatClampNeg) (TV : ∀ j : Int32, ¬ (j < (0 : Int32)) → j < (128 : Int32) → ct.slots[j.toNatClampNeg]? = some (.int (fisT j))) (SS : Sts Z cst fv) :
  MetFree l (⟨"com/example/wary_bearer/warybearer/http/Http1Reader", "isToken", "(Ljava/lang/String;II)Z"⟩ : MethodName) (head1 (Jvm.Cond.code (⟨"com/example/wary_bearer/warybearer/http/Http1Reader", "isToken", "(Ljava/lang/String;II)Z"⟩ : MethodName) prog_13_method_12_code 5 (some .boolean) :: ws) ({ frames := 5, cells := 0, slots := 0, locals := 66 } : Room)) (fun a U => a = #[(.ref r0), (.int (2 : Int32)), (.int (3 : Int32))] ∧ Z.Warmed39 U.vm ∧ U.heap = h0) (fun _ _ _ _ _ => True) (fun _ U o U' => ∃ v L, o = .returned v ∧ QrmTokL23 Z r0 c0 c1 c2 ta kb tt ct cst fv h0 n0 v U'.heap L ∧ FrameEnd U o U' L ({ frames := 5, cells := 0, slots := 0, locals := 66 } : Room).cells ({ frames := 5, cells := 0, slots := 0, locals := 66 } : Room).slots) := by
 refine MetFree.of_bodySF (plainFor_of_name pnc_com_example_wary_bearer_warybearer_http_Http1Reader) hisR ?_
 intro p e s m args below meth c s₁ Bd hml0 hP hK
 obtain ⟨rfl, hZ, hh⟩ := hP
 have hx := Bd.exec
 have hby := Bd.bytes
 have hml : c.maxLocals = 5 := hml0
 have hown : s.vm.findClass "com/example/wary_bearer/warybearer/http/Http1Reader" = some m.cls := findClass_of_methodNamed Bd.named
 have hnm := (name_of_methodNamed Bd.named Bd.method).1
 have X0 : Stand p l e ({ frames := 5, cells := 0, slots := 0, locals := 66 } : Room) s m #[(.ref r0), (.int (2 : Int32)), (.int (3 : Int32))] below meth c s₁ [] 0 0 := Stand.of_body Bd
 have e0 : s₁.heap = h0 := by rw [← hh, Bd.state]; rfl
 have N0 := Fr.nil n0
 have kp0 : Keep h0 h0 [] := Keep.refl _ _
 have G0 : ∀ t, Steps p.tables e below (s₁.setTop (mkF m 0 #[rv r0, iv 2, iv 3, .unset, .unset] [])) t → Steps p.tables e below (s₁.setTop (entryFrame m #[(.ref r0), (.int (2 : Int32)), (.int (3 : Int32))] 5)) t := fun t k => castTop (ef_rmTokL23 m r0 (2 : Int32) (3 : Int32)) k
 have G1 : ∀ t, Steps p.tables e below (s₁.setTop (mkF m 2 #[rv r0, iv 2, iv 3, .unset, .unset] [(.int (3 : Int32)), (.int (2 : Int32))])) t → Steps p.tables e below (s₁.setTop (entryFrame m #[(.ref r0), (.int (2 : Int32)), (.int (3 : Int32))] 5)) t := by
  intro t kt
  refine G0 _ ?_
  refine XS.iloadN X0.here hx rfl (hb hby d8_0) rfl ?_
  refine XS.iloadN X0.here hx rfl (hb hby d8_1) rfl ?_
  exact kt
 have G2 : ∀ t, Steps p.tables e below (s₁.setTop (mkF m 11 #[rv r0, iv 2, iv 3, iv 2, .unset] [(.int (3 : Int32)), (.int (2 : Int32))])) t → Steps p.tables e below (s₁.setTop (entryFrame m #[(.ref r0), (.int (2 : Int32)), (.int (3 : Int32))] 5)) t := by
  intro t kt
  refine G1 _ ?_
  refine XS.icmpYes X0.here hx rfl (pc0 := 2) (pc' := 7) rfl (hb hby d8_2) rfl (tlt (by decide)).1 (by decide) (by decide) ?_
  refine XS.iloadN X0.here hx rfl (hb hby d8_7) rfl ?_
  refine XS.istoreN X0.here hx rfl (hb hby d8_8) rfl (l' := #[rv r0, iv 2, iv 3, iv 2, .unset]) rfl ?_
  refine XS.iloadN X0.here hx rfl (hb hby d8_9) rfl ?_
  refine XS.iloadN X0.here hx rfl (hb hby d8_10) rfl ?_
  exact kt
 obtain ⟨cq3, kq3, q3a, q3b, q3c⟩ := isOf hZ e0 E0
 obtain ⟨_, _, ⟨T3, L3, k3, n3⟩, -, X3, ⟨Lc3, hQ3, l3, y3, z3⟩, st3⟩ := X0.virtualBack hx (y := (⟨"java/lang/String", "charAt", "(I)C"⟩ : MethodName)) (z := (⟨"java/lang/String", "charAt", "(I)C"⟩ : MethodName)) hown (mvT hZ (hw _ (List.mem_of_getElem? (i := 62) rfl))) (mvT hZ (hw _ (List.mem_of_getElem? (i := 63) rfl))) (notFace_of_selects (args := #[]) (mvT hZ (hw _ (List.mem_of_getElem? (i := 65) rfl)))) (mvT hZ (hw _ (List.mem_of_getElem? (i := 65) rfl))) (mvT hZ (hw _ (List.mem_of_getElem? (i := 64) rfl))) (by decide) (backOf (W := 0) (rmChL l Z a0 hw [] r0 (2 : Int32) ta kb (3 : Int32) [(.int (nar .byte (c0.toInt8.toInt32))), (.int (nar .byte (c1.toInt8.toInt32))), (.int (nar .byte (c2.toInt8.toInt32)))] (nar .byte (c2.toInt8.toInt32)) c2 cst fv h0 n0 Z0 E0 Fc Fv V0 O0 (by decide) (by decide) rfl (own_lat c2 hb2 hl2) SS) hZ (hw _ (List.mem_of_getElem? (i := 66) rfl)) (hw _ (List.mem_of_getElem? (i := 8) rfl)) (by decide) (by decide)) q3a q3c (g := (mkF m 16 #[rv r0, iv 2, iv 3, iv 2, .unset] [(.int (2 : Int32)), (.ref r0)])) rfl (by rw [hml]; rfl) (Steps.refl _) (argsL := [(.int (2 : Int32))]) (rest := []) (lenOf pd_13 rfl) rfl (by show 2 * 0 + _ ≤ _; exact Nat.le_of_eq rfl) (hb hby d8_16) (fun _ _ => ⟨rfl, e0, (by decide : 0 + 0 ≤ _), (by decide : 0 + 0 ≤ _)⟩)
 dsimp only [Pt.U, Pt.locs, Pt.cells, Pt.slots] at X3 l3 y3 z3 st3 hQ3
 subst l3 y3 z3
 obtain ⟨rfl, N3q, eh3⟩ := hQ3
 have N3 := Fr.app N0 N3q
 obtain ⟨T4, X4, e4, st4⟩ := getS2 X3 hx hZ hown (host := "") (Or.inl (hw _ (List.mem_of_getElem? (i := 89) rfl))) Via.refl eh3 (TS.ext O0.2) (g := (mkF m 23 #[rv r0, iv 2, iv 3, iv 2, iv c2] [(.int c2)])) rfl (hb hby d8_23)
 have G5 : ∀ t, Steps p.tables e below (T4.setTop (mkF m 27 #[rv r0, iv 2, iv 3, iv 2, iv c2] [(.int (128 : Int32)), (.int c2)])) t → Steps p.tables e below (s₁.setTop (entryFrame m #[(.ref r0), (.int (2 : Int32)), (.int (3 : Int32))] 5)) t := by
  intro t kt
  refine G2 _ ?_
  refine XS.icmpNo X0.here hx rfl (hb hby d8_11) rfl (tlt (by decide)).2.1 ?_
  refine XS.aloadN X0.here hx rfl (hb hby d8_14) rfl rfl ?_
  refine XS.iloadN X0.here hx rfl (hb hby d8_15) rfl ?_
  refine st3.trans ?_
  refine XS.istore X3.here hx rfl (hb hby d8_19) rfl (l' := #[rv r0, iv 2, iv 3, iv 2, iv c2]) rfl ?_
  refine XS.iload X3.here hx rfl (hb hby d8_21) rfl ?_
  refine st4 _ ?_
  refine X4.arraylength hx (by rw [e4]; exact (TA.ext O0.2).1) (State.isArrayOf_alike hZ.alike (TA.ext O0.2).2.1) (g := (mkF m 26 #[rv r0, iv 2, iv 3, iv 2, iv c2] [(.ref tt), (.int c2)])) rfl rfl (hb hby d8_26) _ ?_
  rw [len_of TS2 (by decide)]
  exact kt
 by_cases hc27_6 : c2 < (128 : Int32)
 ·skip
  obtain ⟨T7, X7, e7, st7⟩ := getS2 X4 hx hZ hown (host := "") (Or.inl (hw _ (List.mem_of_getElem? (i := 89) rfl))) Via.refl e4 (TS.ext O0.2) (g := (mkF m 30 #[rv r0, iv 2, iv 3, iv 2, iv c2] [])) rfl (hb hby d8_30)
  have hn8 : ¬ (c2 < (0 : Int32)) := by rw [Int32.lt_iff_toInt_lt]; exact Int.not_lt.mpr hb2.1
  have hin8 : ¬ (c2 < 0 ∨ ct.slots.size ≤ (c2).toNatClampNeg) := inb_of TS2 ⟨hn8, hc27_6⟩
  have hat8 := TV c2 hn8 hc27_6
  have G9 : ∀ t, Steps p.tables e below (T7.setTop (mkF m 36 #[rv r0, iv 2, iv 3, iv 2, iv c2] [(.int (fisT c2))])) t → Steps p.tables e below (s₁.setTop (entryFrame m #[(.ref r0), (.int (2 : Int32)), (.int (3 : Int32))] 5)) t := by
   intro t kt
   refine G5 _ ?_
   refine XS.icmpNo X4.here hx rfl (hb hby d8_27) rfl (tlt hc27_6).2.1 ?_
   refine st7 _ ?_
   refine XS.iload X7.here hx rfl (hb hby d8_33) rfl ?_
   refine X7.baloadBooleans hx (j := c2) (v := (.int (fisT c2))) (by rw [e7]; exact (TA.ext O0.2).1) (State.isArrayOf_alike hZ.alike (TA.ext O0.2).2.1) (TA.ext O0.2).2.2 hin8 hat8 (g := (mkF m 35 #[rv r0, iv 2, iv 3, iv 2, iv c2] [(.int c2), (.ref tt)])) rfl rfl (hb hby d8_35) _ ?_
   exact kt
  by_cases hc36_10 : (fisT c2) = (0 : Int32)
  ·skip
   obtain ⟨fs, hr, hrun, hended, hW, hsame⟩ := X7.leave (v := some (.int (0 : Int32))) (fun h => by rw [Bd.returns] at h; cases h)
   refine ⟨_, _, G9 _ ?_, hrun, hended, _, _, rfl, ?_, ⟨_, rfl⟩, hW, hsame.mono (by decide) (by decide)⟩
   ·skip
    refine XS.ifNo X7.here hx rfl (hb hby d8_36) rfl ((if0 _ _).trans (teq hc36_10).2) ?_
    refine XS.iconst X7.here hx rfl (hb hby d8_39) ?_
    exact retN X7 hx (t := .boolean) Bd.returns (by simp) (hb hby d8_40) hr
   ·show QrmTokL23 Z r0 c0 c1 c2 ta kb tt ct cst fv h0 n0 _ T7.heap _
    rw [e7]
    exact ⟨by rw [own_tok, if_pos hc36_10], N3, rfl⟩
  ·skip
   have G11 : ∀ t, Steps p.tables e below (T7.setTop (mkF m 11 #[rv r0, iv 2, iv 3, iv 3, iv c2] [(.int (3 : Int32)), (.int (3 : Int32))])) t → Steps p.tables e below (s₁.setTop (entryFrame m #[(.ref r0), (.int (2 : Int32)), (.int (3 : Int32))] 5)) t := by
    intro t kt
    refine G9 _ ?_
    refine XS.ifYes X7.here hx rfl (pc0 := 36) (pc' := 41) rfl (hb hby d8_36) rfl ((if0 _ _).trans (feq hc36_10).2) (by decide) (by decide) ?_
    refine XS.iinc X7.here hx rfl (hb hby d8_41) rfl (l' := #[rv r0, iv 2, iv 3, iv 3, iv c2]) rfl ?_
    refine XS.goto X7.here hx rfl (pc0 := 44) (pc' := 9) rfl (hb hby d8_44) (by decide) (by decide) ?_
    refine XS.iloadN X7.here hx rfl (hb hby d8_9) rfl ?_
    show Steps p.tables e below (T7.setTop (mkF m 10 #[rv r0, iv 2, iv 3, iv 3, iv c2] [(.int (3 : Int32))])) _
    refine XS.iloadN X7.here hx rfl (hb hby d8_10) rfl ?_
    exact kt
   obtain ⟨fs, hr, hrun, hended, hW, hsame⟩ := X7.leave (v := some (.int (1 : Int32))) (fun h => by rw [Bd.returns] at h; cases h)
   refine ⟨_, _, G11 _ ?_, hrun, hended, _, _, rfl, ?_, ⟨_, rfl⟩, hW, hsame.mono (by decide) (by decide)⟩
   ·skip
    refine XS.icmpYes X7.here hx rfl (pc0 := 11) (pc' := 47) rfl (hb hby d8_11) rfl (flt (by decide)).2.1 (by decide) (by decide) ?_
    refine XS.iconst X7.here hx rfl (hb hby d8_47) ?_
    exact retN X7 hx (t := .boolean) Bd.returns (by simp) (hb hby d8_48) hr
   ·show QrmTokL23 Z r0 c0 c1 c2 ta kb tt ct cst fv h0 n0 _ T7.heap _
    rw [e7]
    exact ⟨by rw [own_tok, if_neg hc36_10, own_tok], N3, rfl⟩
 ·skip
  obtain ⟨fs, hr, hrun, hended, hW, hsame⟩ := X4.leave (v := some (.int (0 : Int32))) (fun h => by rw [Bd.returns] at h; cases h)
  refine ⟨_, _, G5 _ ?_, hrun, hended, _, _, rfl, ?_, ⟨_, rfl⟩, hW, hsame.mono (by decide) (by decide)⟩
  ·skip
   refine XS.icmpYes X4.here hx rfl (pc0 := 27) (pc' := 39) rfl (hb hby d8_27) rfl (flt hc27_6).2.1 (by decide) (by decide) ?_
   refine XS.iconst X4.here hx rfl (hb hby d8_39) ?_
   exact retN X4 hx (t := .boolean) Bd.returns (by simp) (hb hby d8_40) hr
  ·show QrmTokL23 Z r0 c0 c1 c2 ta kb tt ct cst fv h0 n0 _ T4.heap _
   rw [e4]
   exact ⟨by rw [own_tok, if_pos (own_big c2 hc27_6)], N3, rfl⟩
def QrmTokU01 (Z : State) (r0 : Addr) (c0 c1 c2 : Int32) (ta : Addr) (kb : ClassId) (tt : Addr) (ct : Cell) (cst : Int32) (fv : Value) (h0 : Heap) (n0 : Nat) (v : Option Value) (h : Heap) (L : List Loc) : Prop := v = some (.int (own_tok [c0])) ∧ Fr n0 L ∧ h = h0
theorem ef_rmTokU01 (m : MethodId) (x0 : Addr) (x1 : Int32) (x2 : Int32) : entryFrame m #[(.ref x0), (.int x1), (.int x2)] 5 = mkF m 0 #[.val (.ref x0), .val (.int x1), .val (.int x2), .unset, .unset] [] := by first | (simp [entryFrame, mkF, argsToLocals, Value.category]; done) | rfl
set_option maxRecDepth 65536 in
set_option maxHeartbeats 40000000 in
theorem rmTokU01 (l : Launch) (Z : State) (a0 : Array Value) (hw : ∀ d ∈ tables_1, d.before a0 Z = true) (ws : List Jvm.Cond) (r0 : Addr) (c0 c1 c2 : Int32) (ta : Addr) (kb : ClassId) (tt : Addr) (ct : Cell) (cst : Int32) (fv : Value) (h0 : Heap) (n0 : Nat) (Z0 : n0 ≤ h0.size) (E0 : Exa Z h0 r0 "java/lang/String") (Fc : Fld Z h0 r0 "java/lang/String" "coder" "B" (.int (1 : Int32))) (Fv : Fld Z h0 r0 "java/lang/String" "value" "[B" (.ref ta)) (V0 : Arv Z h0 ta kb .byte (6 : Int32) [(.int (nar .byte ((c0 >>> ((0 : Int32) &&& 31)).toInt8.toInt32))), (.int (nar .byte ((c0 >>> ((8 : Int32) &&& 31)).toInt8.toInt32))), (.int (nar .byte ((c1 >>> ((0 : Int32) &&& 31)).toInt8.toInt32))), (.int (nar .byte ((c1 >>> ((8 : Int32) &&& 31)).toInt8.toInt32))), (.int (nar .byte ((c2 >>> ((0 : Int32) &&& 31)).toInt8.toInt32))), (.int (nar .byte ((c2 >>> ((8 : Int32) &&& 31)).toInt8.toInt32)))] (.int (0 : Int32))) (O0 : Old Z n0 h0) (hb0 : 0 ≤ c0.toInt ∧ c0.toInt ≤ 65535) (hb1 : 0 ≤ c1.toInt ∧ c1.toInt ≤ 65535) (hb2 : 0 ≤ c2.toInt ∧ c2.toInt ≤ 65535) (TS : Sta Z Z.heap "com/example/wary_bearer/warybearer/http/Http1Reader" "TCHAR" "[Z" (.ref tt)) (TA : Arr Z Z.heap tt ct .boolean) (TS2 : ct.slots.size = (128 : Int32).toNatClampNeg) (TV : ∀ j : Int32, ¬ (j < (0 : Int32)) → j < (128 : Int32) → ct.slots[j.toNatClampNeg]? = some (.int (fisT j))) (SS : Sts Z cst fv) :
  MetFree l (⟨"com/example/wary_bearer/warybearer/http/Http1Reader", "isToken", "(Ljava/lang/String;II)Z"⟩ : MethodName) (head1 (Jvm.Cond.code (⟨"com/example/wary_bearer/warybearer/http/Http1Reader", "isToken", "(Ljava/lang/String;II)Z"⟩ : MethodName) prog_13_method_12_code 5 (some .boolean) :: ws) ({ frames := 5, cells := 0, slots := 0, locals := 66 } : Room)) (fun a U => a = #[(.ref r0), (.int (0 : Int32)), (.int (1 : Int32))] ∧ Z.Warmed39 U.vm ∧ U.heap = h0) (fun _ _ _ _ _ => True) (fun _ U o U' => ∃ v L, o = .returned v ∧ QrmTokU01 Z r0 c0 c1 c2 ta kb tt ct cst fv h0 n0 v U'.heap L ∧ FrameEnd U o U' L ({ frames := 5, cells := 0, slots := 0, locals := 66 } : Room).cells ({ frames := 5, cells := 0, slots := 0, locals := 66 } : Room).slots) := by
 refine MetFree.of_bodySF (plainFor_of_name pnc_com_example_wary_bearer_warybearer_http_Http1Reader) hisR ?_
 intro p e s m args below meth c s₁ Bd hml0 hP hK
 obtain ⟨rfl, hZ, hh⟩ := hP
 have hx := Bd.exec
 have hby := Bd.bytes
 have hml : c.maxLocals = 5 := hml0
 have hown : s.vm.findClass "com/example/wary_bearer/warybearer/http/Http1Reader" = some m.cls := findClass_of_methodNamed Bd.named
 have hnm := (name_of_methodNamed Bd.named Bd.method).1
 have X0 : Stand p l e ({ frames := 5, cells := 0, slots := 0, locals := 66 } : Room) s m #[(.ref r0), (.int (0 : Int32)), (.int (1 : Int32))] below meth c s₁ [] 0 0 := Stand.of_body Bd
 have e0 : s₁.heap = h0 := by rw [← hh, Bd.state]; rfl
 have N0 := Fr.nil n0
 have kp0 : Keep h0 h0 [] := Keep.refl _ _
 have G0 : ∀ t, Steps p.tables e below (s₁.setTop (mkF m 0 #[rv r0, iv 0, iv 1, .unset, .unset] [])) t → Steps p.tables e below (s₁.setTop (entryFrame m #[(.ref r0), (.int (0 : Int32)), (.int (1 : Int32))] 5)) t := fun t k => castTop (ef_rmTokU01 m r0 (0 : Int32) (1 : Int32)) k
 have G1 : ∀ t, Steps p.tables e below (s₁.setTop (mkF m 2 #[rv r0, iv 0, iv 1, .unset, .unset] [(.int (1 : Int32)), (.int (0 : Int32))])) t → Steps p.tables e below (s₁.setTop (entryFrame m #[(.ref r0), (.int (0 : Int32)), (.int (1 : Int32))] 5)) t := by
  intro t kt
  refine G0 _ ?_
  refine XS.iloadN X0.here hx rfl (hb hby d8_0) rfl ?_
  refine XS.iloadN X0.here hx rfl (hb hby d8_1) rfl ?_
  exact kt
 have G2 : ∀ t, Steps p.tables e below (s₁.setTop (mkF m 11 #[rv r0, iv 0, iv 1, iv 0, .unset] [(.int (1 : Int32)), (.int (0 : Int32))])) t → Steps p.tables e below (s₁.setTop (entryFrame m #[(.ref r0), (.int (0 : Int32)), (.int (1 : Int32))] 5)) t := by
  intro t kt
  refine G1 _ ?_
  refine XS.icmpYes X0.here hx rfl (pc0 := 2) (pc' := 7) rfl (hb hby d8_2) rfl (tlt (by decide)).1 (by decide) (by decide) ?_
  refine XS.iloadN X0.here hx rfl (hb hby d8_7) rfl ?_
  refine XS.istoreN X0.here hx rfl (hb hby d8_8) rfl (l' := #[rv r0, iv 0, iv 1, iv 0, .unset]) rfl ?_
  refine XS.iloadN X0.here hx rfl (hb hby d8_9) rfl ?_
  refine XS.iloadN X0.here hx rfl (hb hby d8_10) rfl ?_
  exact kt
 obtain ⟨cq3, kq3, q3a, q3b, q3c⟩ := isOf hZ e0 E0
 obtain ⟨_, _, ⟨T3, L3, k3, n3⟩, -, X3, ⟨Lc3, hQ3, l3, y3, z3⟩, st3⟩ := X0.virtualBack hx (y := (⟨"java/lang/String", "charAt", "(I)C"⟩ : MethodName)) (z := (⟨"java/lang/String", "charAt", "(I)C"⟩ : MethodName)) hown (mvT hZ (hw _ (List.mem_of_getElem? (i := 62) rfl))) (mvT hZ (hw _ (List.mem_of_getElem? (i := 63) rfl))) (notFace_of_selects (args := #[]) (mvT hZ (hw _ (List.mem_of_getElem? (i := 65) rfl)))) (mvT hZ (hw _ (List.mem_of_getElem? (i := 65) rfl))) (mvT hZ (hw _ (List.mem_of_getElem? (i := 64) rfl))) (by decide) (backOf (W := 0) (rmChU l Z a0 hw [] r0 (0 : Int32) ta kb (6 : Int32) [(.int (nar .byte ((c0 >>> ((0 : Int32) &&& 31)).toInt8.toInt32))), (.int (nar .byte ((c0 >>> ((8 : Int32) &&& 31)).toInt8.toInt32))), (.int (nar .byte ((c1 >>> ((0 : Int32) &&& 31)).toInt8.toInt32))), (.int (nar .byte ((c1 >>> ((8 : Int32) &&& 31)).toInt8.toInt32))), (.int (nar .byte ((c2 >>> ((0 : Int32) &&& 31)).toInt8.toInt32))), (.int (nar .byte ((c2 >>> ((8 : Int32) &&& 31)).toInt8.toInt32)))] (nar .byte ((c0 >>> ((0 : Int32) &&& 31)).toInt8.toInt32)) (nar .byte ((c0 >>> ((8 : Int32) &&& 31)).toInt8.toInt32)) c0 cst fv h0 n0 Z0 E0 Fc Fv V0 O0 (by decide) (by decide) (by decide) (by decide) rfl rfl (own_utf c0 hb0) SS) hZ (hw _ (List.mem_of_getElem? (i := 66) rfl)) (hw _ (List.mem_of_getElem? (i := 8) rfl)) (by decide) (by decide)) q3a q3c (g := (mkF m 16 #[rv r0, iv 0, iv 1, iv 0, .unset] [(.int (0 : Int32)), (.ref r0)])) rfl (by rw [hml]; rfl) (Steps.refl _) (argsL := [(.int (0 : Int32))]) (rest := []) (lenOf pd_13 rfl) rfl (by show 2 * 0 + _ ≤ _; exact Nat.le_of_eq rfl) (hb hby d8_16) (fun _ _ => ⟨rfl, e0, (by decide : 0 + 0 ≤ _), (by decide : 0 + 0 ≤ _)⟩)
 dsimp only [Pt.U, Pt.locs, Pt.cells, Pt.slots] at X3 l3 y3 z3 st3 hQ3
 subst l3 y3 z3
 obtain ⟨rfl, N3q, eh3⟩ := hQ3
 have N3 := Fr.app N0 N3q
 obtain ⟨T4, X4, e4, st4⟩ := getS2 X3 hx hZ hown (host := "") (Or.inl (hw _ (List.mem_of_getElem? (i := 89) rfl))) Via.refl eh3 (TS.ext O0.2) (g := (mkF m 23 #[rv r0, iv 0, iv 1, iv 0, iv c0] [(.int c0)])) rfl (hb hby d8_23)
 have G5 : ∀ t, Steps p.tables e below (T4.setTop (mkF m 27 #[rv r0, iv 0, iv 1, iv 0, iv c0] [(.int (128 : Int32)), (.int c0)])) t → Steps p.tables e below (s₁.setTop (entryFrame m #[(.ref r0), (.int (0 : Int32)), (.int (1 : Int32))] 5)) t := by
  intro t kt
  refine G2 _ ?_
  refine XS.icmpNo X0.here hx rfl (hb hby d8_11) rfl (tlt (by decide)).2.1 ?_
  refine XS.aloadN X0.here hx rfl (hb hby d8_14) rfl rfl ?_
  refine XS.iloadN X0.here hx rfl (hb hby d8_15) rfl ?_
  refine st3.trans ?_
  refine XS.istore X3.here hx rfl (hb hby d8_19) rfl (l' := #[rv r0, iv 0, iv 1, iv 0, iv c0]) rfl ?_
  refine XS.iload X3.here hx rfl (hb hby d8_21) rfl ?_
  refine st4 _ ?_
  refine X4.arraylength hx (by rw [e4]; exact (TA.ext O0.2).1) (State.isArrayOf_alike hZ.alike (TA.ext O0.2).2.1) (g := (mkF m 26 #[rv r0, iv 0, iv 1, iv 0, iv c0] [(.ref tt), (.int c0)])) rfl rfl (hb hby d8_26) _ ?_
  rw [len_of TS2 (by decide)]
  exact kt
 by_cases hc27_6 : c0 < (128 : Int32)
 ·skip
  obtain ⟨T7, X7, e7, st7⟩ := getS2 X4 hx hZ hown (host := "") (Or.inl (hw _ (List.mem_of_getElem? (i := 89) rfl))) Via.refl e4 (TS.ext O0.2) (g := (mkF m 30 #[rv r0, iv 0, iv 1, iv 0, iv c0] [])) rfl (hb hby d8_30)
  have hn8 : ¬ (c0 < (0 : Int32)) := by rw [Int32.lt_iff_toInt_lt]; exact Int.not_lt.mpr hb0.1
  have hin8 : ¬ (c0 < 0 ∨ ct.slots.size ≤ (c0).toNatClampNeg) := inb_of TS2 ⟨hn8, hc27_6⟩
  have hat8 := TV c0 hn8 hc27_6
  have G9 : ∀ t, Steps p.tables e below (T7.setTop (mkF m 36 #[rv r0, iv 0, iv 1, iv 0, iv c0] [(.int (fisT c0))])) t → Steps p.tables e below (s₁.setTop (entryFrame m #[(.ref r0), (.int (0 : Int32)), (.int (1 : Int32))] 5)) t := by
   intro t kt
   refine G5 _ ?_
   refine XS.icmpNo X4.here hx rfl (hb hby d8_27) rfl (tlt hc27_6).2.1 ?_
   refine st7 _ ?_
   refine XS.iload X7.here hx rfl (hb hby d8_33) rfl ?_
   refine X7.baloadBooleans hx (j := c0) (v := (.int (fisT c0))) (by rw [e7]; exact (TA.ext O0.2).1) (State.isArrayOf_alike hZ.alike (TA.ext O0.2).2.1) (TA.ext O0.2).2.2 hin8 hat8 (g := (mkF m 35 #[rv r0, iv 0, iv 1, iv 0, iv c0] [(.int c0), (.ref tt)])) rfl rfl (hb hby d8_35) _ ?_
   exact kt
  by_cases hc36_10 : (fisT c0) = (0 : Int32)
  ·skip
   obtain ⟨fs, hr, hrun, hended, hW, hsame⟩ := X7.leave (v := some (.int (0 : Int32))) (fun h => by rw [Bd.returns] at h; cases h)
   refine ⟨_, _, G9 _ ?_, hrun, hended, _, _, rfl, ?_, ⟨_, rfl⟩, hW, hsame.mono (by decide) (by decide)⟩
   ·skip
    refine XS.ifNo X7.here hx rfl (hb hby d8_36) rfl ((if0 _ _).trans (teq hc36_10).2) ?_
    refine XS.iconst X7.here hx rfl (hb hby d8_39) ?_
    exact retN X7 hx (t := .boolean) Bd.returns (by simp) (hb hby d8_40) hr
   ·show QrmTokU01 Z r0 c0 c1 c2 ta kb tt ct cst fv h0 n0 _ T7.heap _
    rw [e7]
    exact ⟨by rw [own_tok, if_pos hc36_10], N3, rfl⟩
  ·skip
   have G11 : ∀ t, Steps p.tables e below (T7.setTop (mkF m 11 #[rv r0, iv 0, iv 1, iv 1, iv c0] [(.int (1 : Int32)), (.int (1 : Int32))])) t → Steps p.tables e below (s₁.setTop (entryFrame m #[(.ref r0), (.int (0 : Int32)), (.int (1 : Int32))] 5)) t := by
    intro t kt
    refine G9 _ ?_
    refine XS.ifYes X7.here hx rfl (pc0 := 36) (pc' := 41) rfl (hb hby d8_36) rfl ((if0 _ _).trans (feq hc36_10).2) (by decide) (by decide) ?_
    refine XS.iinc X7.here hx rfl (hb hby d8_41) rfl (l' := #[rv r0, iv 0, iv 1, iv 1, iv c0]) rfl ?_
    refine XS.goto X7.here hx rfl (pc0 := 44) (pc' := 9) rfl (hb hby d8_44) (by decide) (by decide) ?_
    refine XS.iloadN X7.here hx rfl (hb hby d8_9) rfl ?_
    show Steps p.tables e below (T7.setTop (mkF m 10 #[rv r0, iv 0, iv 1, iv 1, iv c0] [(.int (1 : Int32))])) _
    refine XS.iloadN X7.here hx rfl (hb hby d8_10) rfl ?_
    exact kt
   obtain ⟨fs, hr, hrun, hended, hW, hsame⟩ := X7.leave (v := some (.int (1 : Int32))) (fun h => by rw [Bd.returns] at h; cases h)
   refine ⟨_, _, G11 _ ?_, hrun, hended, _, _, rfl, ?_, ⟨_, rfl⟩, hW, hsame.mono (by decide) (by decide)⟩
   ·skip
    refine XS.icmpYes X7.here hx rfl (pc0 := 11) (pc' := 47) rfl (hb hby d8_11) rfl (flt (by decide)).2.1 (by decide) (by decide) ?_
    refine XS.iconst X7.here hx rfl (hb hby d8_47) ?_
    exact retN X7 hx (t := .boolean) Bd.returns (by simp) (hb hby d8_48) hr
   ·show QrmTokU01 Z r0 c0 c1 c2 ta kb tt ct cst fv h0 n0 _ T7.heap _
    rw [e7]
    exact ⟨by rw [own_tok, if_neg hc36_10, own_tok], N3, rfl⟩
 ·skip
  obtain ⟨fs, hr, hrun, hended, hW, hsame⟩ := X4.leave (v := some (.int (0 : Int32))) (fun h => by rw [Bd.returns] at h; cases h)
  refine ⟨_, _, G5 _ ?_, hrun, hended, _, _, rfl, ?_, ⟨_, rfl⟩, hW, hsame.mono (by decide) (by decide)⟩
  ·skip
   refine XS.icmpYes X4.here hx rfl (pc0 := 27) (pc' := 39) rfl (hb hby d8_27) rfl (flt hc27_6).2.1 (by decide) (by decide) ?_
   refine XS.iconst X4.here hx rfl (hb hby d8_39) ?_
   exact retN X4 hx (t := .boolean) Bd.returns (by simp) (hb hby d8_40) hr
  ·show QrmTokU01 Z r0 c0 c1 c2 ta kb tt ct cst fv h0 n0 _ T4.heap _
   rw [e4]
   exact ⟨by rw [own_tok, if_pos (own_big c0 hc27_6)], N3, rfl⟩
def QrmTokU02 (Z : State) (r0 : Addr) (c0 c1 c2 : Int32) (ta : Addr) (kb : ClassId) (tt : Addr) (ct : Cell) (cst : Int32) (fv : Value) (h0 : Heap) (n0 : Nat) (v : Option Value) (h : Heap) (L : List Loc) : Prop := v = some (.int (own_tok [c0, c1])) ∧ Fr n0 L ∧ h = h0
theorem ef_rmTokU02 (m : MethodId) (x0 : Addr) (x1 : Int32) (x2 : Int32) : entryFrame m #[(.ref x0), (.int x1), (.int x2)] 5 = mkF m 0 #[.val (.ref x0), .val (.int x1), .val (.int x2), .unset, .unset] [] := by first | (simp [entryFrame, mkF, argsToLocals, Value.category]; done) | rfl
set_option maxRecDepth 65536 in
set_option maxHeartbeats 40000000 in
theorem rmTokU02 (l : Launch) (Z : State) (a0 : Array Value) (hw : ∀ d ∈ tables_1, d.before a0 Z = true) (ws : List Jvm.Cond) (r0 : Addr) (c0 c1 c2 : Int32) (ta : Addr) (kb : ClassId) (tt : Addr) (ct : Cell) (cst : Int32) (fv : Value) (h0 : Heap) (n0 : Nat) (Z0 : n0 ≤ h0.size) (E0 : Exa Z h0 r0 "java/lang/String") (Fc : Fld Z h0 r0 "java/lang/String" "coder" "B" (.int (1 : Int32))) (Fv : Fld Z h0 r0 "java/lang/String" "value" "[B" (.ref ta)) (V0 : Arv Z h0 ta kb .byte (6 : Int32) [(.int (nar .byte ((c0 >>> ((0 : Int32) &&& 31)).toInt8.toInt32))), (.int (nar .byte ((c0 >>> ((8 : Int32) &&& 31)).toInt8.toInt32))), (.int (nar .byte ((c1 >>> ((0 : Int32) &&& 31)).toInt8.toInt32))), (.int (nar .byte ((c1 >>> ((8 : Int32) &&& 31)).toInt8.toInt32))), (.int (nar .byte ((c2 >>> ((0 : Int32) &&& 31)).toInt8.toInt32))), (.int (nar .byte ((c2 >>> ((8 : Int32) &&& 31)).toInt8.toInt32)))] (.int (0 : Int32))) (O0 : Old Z n0 h0) (hb0 : 0 ≤ c0.toInt ∧ c0.toInt ≤ 65535) (hb1 : 0 ≤ c1.toInt ∧ c1.toInt ≤ 65535) (hb2 : 0 ≤ c2.toInt ∧ c2.toInt ≤ 65535) (TS : Sta Z Z.heap "com/example/wary_bearer/warybearer/http/Http1Reader" "TCHAR" "[Z" (.ref tt)) (TA : Arr Z Z.heap tt ct .boolean) (TS2 : ct.slots.size = (128 : Int32).toNatClampNeg) (TV : ∀ j : Int32, ¬ (j < (0 : Int32)) → j < (128 : Int32) → ct.slots[j.toNatClampNeg]? = some (.int (fisT j))) (SS : Sts Z cst fv) :
  MetFree l (⟨"com/example/wary_bearer/warybearer/http/Http1Reader", "isToken", "(Ljava/lang/String;II)Z"⟩ : MethodName) (head1 (Jvm.Cond.code (⟨"com/example/wary_bearer/warybearer/http/Http1Reader", "isToken", "(Ljava/lang/String;II)Z"⟩ : MethodName) prog_13_method_12_code 5 (some .boolean) :: ws) ({ frames := 5, cells := 0, slots := 0, locals := 66 } : Room)) (fun a U => a = #[(.ref r0), (.int (0 : Int32)), (.int (2 : Int32))] ∧ Z.Warmed39 U.vm ∧ U.heap = h0) (fun _ _ _ _ _ => True) (fun _ U o U' => ∃ v L, o = .returned v ∧ QrmTokU02 Z r0 c0 c1 c2 ta kb tt ct cst fv h0 n0 v U'.heap L ∧ FrameEnd U o U' L ({ frames := 5, cells := 0, slots := 0, locals := 66 } : Room).cells ({ frames := 5, cells := 0, slots := 0, locals := 66 } : Room).slots) := by
 refine MetFree.of_bodySF (plainFor_of_name pnc_com_example_wary_bearer_warybearer_http_Http1Reader) hisR ?_
 intro p e s m args below meth c s₁ Bd hml0 hP hK
 obtain ⟨rfl, hZ, hh⟩ := hP
 have hx := Bd.exec
 have hby := Bd.bytes
 have hml : c.maxLocals = 5 := hml0
 have hown : s.vm.findClass "com/example/wary_bearer/warybearer/http/Http1Reader" = some m.cls := findClass_of_methodNamed Bd.named
 have hnm := (name_of_methodNamed Bd.named Bd.method).1
 have X0 : Stand p l e ({ frames := 5, cells := 0, slots := 0, locals := 66 } : Room) s m #[(.ref r0), (.int (0 : Int32)), (.int (2 : Int32))] below meth c s₁ [] 0 0 := Stand.of_body Bd
 have e0 : s₁.heap = h0 := by rw [← hh, Bd.state]; rfl
 have N0 := Fr.nil n0
 have kp0 : Keep h0 h0 [] := Keep.refl _ _
 have G0 : ∀ t, Steps p.tables e below (s₁.setTop (mkF m 0 #[rv r0, iv 0, iv 2, .unset, .unset] [])) t → Steps p.tables e below (s₁.setTop (entryFrame m #[(.ref r0), (.int (0 : Int32)), (.int (2 : Int32))] 5)) t := fun t k => castTop (ef_rmTokU02 m r0 (0 : Int32) (2 : Int32)) k
 have G1 : ∀ t, Steps p.tables e below (s₁.setTop (mkF m 2 #[rv r0, iv 0, iv 2, .unset, .unset] [(.int (2 : Int32)), (.int (0 : Int32))])) t → Steps p.tables e below (s₁.setTop (entryFrame m #[(.ref r0), (.int (0 : Int32)), (.int (2 : Int32))] 5)) t := by
  intro t kt
  refine G0 _ ?_
  refine XS.iloadN X0.here hx rfl (hb hby d8_0) rfl ?_
  refine XS.iloadN X0.here hx rfl (hb hby d8_1) rfl ?_
  exact kt
 have G2 : ∀ t, Steps p.tables e below (s₁.setTop (mkF m 11 #[rv r0, iv 0, iv 2, iv 0, .unset] [(.int (2 : Int32)), (.int (0 : Int32))])) t → Steps p.tables e below (s₁.setTop (entryFrame m #[(.ref r0), (.int (0 : Int32)), (.int (2 : Int32))] 5)) t := by
  intro t kt
  refine G1 _ ?_
  refine XS.icmpYes X0.here hx rfl (pc0 := 2) (pc' := 7) rfl (hb hby d8_2) rfl (tlt (by decide)).1 (by decide) (by decide) ?_
  refine XS.iloadN X0.here hx rfl (hb hby d8_7) rfl ?_
  refine XS.istoreN X0.here hx rfl (hb hby d8_8) rfl (l' := #[rv r0, iv 0, iv 2, iv 0, .unset]) rfl ?_
  refine XS.iloadN X0.here hx rfl (hb hby d8_9) rfl ?_
  refine XS.iloadN X0.here hx rfl (hb hby d8_10) rfl ?_
  exact kt
 obtain ⟨cq3, kq3, q3a, q3b, q3c⟩ := isOf hZ e0 E0
 obtain ⟨_, _, ⟨T3, L3, k3, n3⟩, -, X3, ⟨Lc3, hQ3, l3, y3, z3⟩, st3⟩ := X0.virtualBack hx (y := (⟨"java/lang/String", "charAt", "(I)C"⟩ : MethodName)) (z := (⟨"java/lang/String", "charAt", "(I)C"⟩ : MethodName)) hown (mvT hZ (hw _ (List.mem_of_getElem? (i := 62) rfl))) (mvT hZ (hw _ (List.mem_of_getElem? (i := 63) rfl))) (notFace_of_selects (args := #[]) (mvT hZ (hw _ (List.mem_of_getElem? (i := 65) rfl)))) (mvT hZ (hw _ (List.mem_of_getElem? (i := 65) rfl))) (mvT hZ (hw _ (List.mem_of_getElem? (i := 64) rfl))) (by decide) (backOf (W := 0) (rmChU l Z a0 hw [] r0 (0 : Int32) ta kb (6 : Int32) [(.int (nar .byte ((c0 >>> ((0 : Int32) &&& 31)).toInt8.toInt32))), (.int (nar .byte ((c0 >>> ((8 : Int32) &&& 31)).toInt8.toInt32))), (.int (nar .byte ((c1 >>> ((0 : Int32) &&& 31)).toInt8.toInt32))), (.int (nar .byte ((c1 >>> ((8 : Int32) &&& 31)).toInt8.toInt32))), (.int (nar .byte ((c2 >>> ((0 : Int32) &&& 31)).toInt8.toInt32))), (.int (nar .byte ((c2 >>> ((8 : Int32) &&& 31)).toInt8.toInt32)))] (nar .byte ((c0 >>> ((0 : Int32) &&& 31)).toInt8.toInt32)) (nar .byte ((c0 >>> ((8 : Int32) &&& 31)).toInt8.toInt32)) c0 cst fv h0 n0 Z0 E0 Fc Fv V0 O0 (by decide) (by decide) (by decide) (by decide) rfl rfl (own_utf c0 hb0) SS) hZ (hw _ (List.mem_of_getElem? (i := 66) rfl)) (hw _ (List.mem_of_getElem? (i := 8) rfl)) (by decide) (by decide)) q3a q3c (g := (mkF m 16 #[rv r0, iv 0, iv 2, iv 0, .unset] [(.int (0 : Int32)), (.ref r0)])) rfl (by rw [hml]; rfl) (Steps.refl _) (argsL := [(.int (0 : Int32))]) (rest := []) (lenOf pd_13 rfl) rfl (by show 2 * 0 + _ ≤ _; exact Nat.le_of_eq rfl) (hb hby d8_16) (fun _ _ => ⟨rfl, e0, (by decide : 0 + 0 ≤ _), (by decide : 0 + 0 ≤ _)⟩)
 dsimp only [Pt.U, Pt.locs, Pt.cells, Pt.slots] at X3 l3 y3 z3 st3 hQ3
 subst l3 y3 z3
 obtain ⟨rfl, N3q, eh3⟩ := hQ3
 have N3 := Fr.app N0 N3q
 obtain ⟨T4, X4, e4, st4⟩ := getS2 X3 hx hZ hown (host := "") (Or.inl (hw _ (List.mem_of_getElem? (i := 89) rfl))) Via.refl eh3 (TS.ext O0.2) (g := (mkF m 23 #[rv r0, iv 0, iv 2, iv 0, iv c0] [(.int c0)])) rfl (hb hby d8_23)
 have G5 : ∀ t, Steps p.tables e below (T4.setTop (mkF m 27 #[rv r0, iv 0, iv 2, iv 0, iv c0] [(.int (128 : Int32)), (.int c0)])) t → Steps p.tables e below (s₁.setTop (entryFrame m #[(.ref r0), (.int (0 : Int32)), (.int (2 : Int32))] 5)) t := by
  intro t kt
  refine G2 _ ?_
  refine XS.icmpNo X0.here hx rfl (hb hby d8_11) rfl (tlt (by decide)).2.1 ?_
  refine XS.aloadN X0.here hx rfl (hb hby d8_14) rfl rfl ?_
  refine XS.iloadN X0.here hx rfl (hb hby d8_15) rfl ?_
  refine st3.trans ?_
  refine XS.istore X3.here hx rfl (hb hby d8_19) rfl (l' := #[rv r0, iv 0, iv 2, iv 0, iv c0]) rfl ?_
  refine XS.iload X3.here hx rfl (hb hby d8_21) rfl ?_
  refine st4 _ ?_
  refine X4.arraylength hx (by rw [e4]; exact (TA.ext O0.2).1) (State.isArrayOf_alike hZ.alike (TA.ext O0.2).2.1) (g := (mkF m 26 #[rv r0, iv 0, iv 2, iv 0, iv c0] [(.ref tt), (.int c0)])) rfl rfl (hb hby d8_26) _ ?_
  rw [len_of TS2 (by decide)]
  exact kt
 by_cases hc27_6 : c0 < (128 : Int32)
 ·skip
  obtain ⟨T7, X7, e7, st7⟩ := getS2 X4 hx hZ hown (host := "") (Or.inl (hw _ (List.mem_of_getElem? (i := 89) rfl))) Via.refl e4 (TS.ext O0.2) (g := (mkF m 30 #[rv r0, iv 0, iv 2, iv 0, iv c0] [])) rfl (hb hby d8_30)
  have hn8 : ¬ (c0 < (0 : Int32)) := by rw [Int32.lt_iff_toInt_lt]; exact Int.not_lt.mpr hb0.1
  have hin8 : ¬ (c0 < 0 ∨ ct.slots.size ≤ (c0).toNatClampNeg) := inb_of TS2 ⟨hn8, hc27_6⟩
  have hat8 := TV c0 hn8 hc27_6
  have G9 : ∀ t, Steps p.tables e below (T7.setTop (mkF m 36 #[rv r0, iv 0, iv 2, iv 0, iv c0] [(.int (fisT c0))])) t → Steps p.tables e below (s₁.setTop (entryFrame m #[(.ref r0), (.int (0 : Int32)), (.int (2 : Int32))] 5)) t := by
   intro t kt
   refine G5 _ ?_
   refine XS.icmpNo X4.here hx rfl (hb hby d8_27) rfl (tlt hc27_6).2.1 ?_
   refine st7 _ ?_
   refine XS.iload X7.here hx rfl (hb hby d8_33) rfl ?_
   refine X7.baloadBooleans hx (j := c0) (v := (.int (fisT c0))) (by rw [e7]; exact (TA.ext O0.2).1) (State.isArrayOf_alike hZ.alike (TA.ext O0.2).2.1) (TA.ext O0.2).2.2 hin8 hat8 (g := (mkF m 35 #[rv r0, iv 0, iv 2, iv 0, iv c0] [(.int c0), (.ref tt)])) rfl rfl (hb hby d8_35) _ ?_
   exact kt
  by_cases hc36_10 : (fisT c0) = (0 : Int32)
  ·skip
   obtain ⟨fs, hr, hrun, hended, hW, hsame⟩ := X7.leave (v := some (.int (0 : Int32))) (fun h => by rw [Bd.returns] at h; cases h)
   refine ⟨_, _, G9 _ ?_, hrun, hended, _, _, rfl, ?_, ⟨_, rfl⟩, hW, hsame.mono (by decide) (by decide)⟩
   ·skip
    refine XS.ifNo X7.here hx rfl (hb hby d8_36) rfl ((if0 _ _).trans (teq hc36_10).2) ?_
    refine XS.iconst X7.here hx rfl (hb hby d8_39) ?_
    exact retN X7 hx (t := .boolean) Bd.returns (by simp) (hb hby d8_40) hr
   ·show QrmTokU02 Z r0 c0 c1 c2 ta kb tt ct cst fv h0 n0 _ T7.heap _
    rw [e7]
    exact ⟨by rw [own_tok, if_pos hc36_10], N3, rfl⟩
  ·skip
   have G11 : ∀ t, Steps p.tables e below (T7.setTop (mkF m 11 #[rv r0, iv 0, iv 2, iv 1, iv c0] [(.int (2 : Int32)), (.int (1 : Int32))])) t → Steps p.tables e below (s₁.setTop (entryFrame m #[(.ref r0), (.int (0 : Int32)), (.int (2 : Int32))] 5)) t := by
    intro t kt
    refine G9 _ ?_
    refine XS.ifYes X7.here hx rfl (pc0 := 36) (pc' := 41) rfl (hb hby d8_36) rfl ((if0 _ _).trans (feq hc36_10).2) (by decide) (by decide) ?_
    refine XS.iinc X7.here hx rfl (hb hby d8_41) rfl (l' := #[rv r0, iv 0, iv 2, iv 1, iv c0]) rfl ?_
    refine XS.goto X7.here hx rfl (pc0 := 44) (pc' := 9) rfl (hb hby d8_44) (by decide) (by decide) ?_
    refine XS.iloadN X7.here hx rfl (hb hby d8_9) rfl ?_
    show Steps p.tables e below (T7.setTop (mkF m 10 #[rv r0, iv 0, iv 2, iv 1, iv c0] [(.int (1 : Int32))])) _
    refine XS.iloadN X7.here hx rfl (hb hby d8_10) rfl ?_
    exact kt
   obtain ⟨cq12, kq12, q12a, q12b, q12c⟩ := isOf hZ e7 E0
   obtain ⟨_, _, ⟨T12, L12, k12, n12⟩, -, X12, ⟨Lc12, hQ12, l12, y12, z12⟩, st12⟩ := X7.virtualBack hx (y := (⟨"java/lang/String", "charAt", "(I)C"⟩ : MethodName)) (z := (⟨"java/lang/String", "charAt", "(I)C"⟩ : MethodName)) hown (mvT hZ (hw _ (List.mem_of_getElem? (i := 62) rfl))) (mvT hZ (hw _ (List.mem_of_getElem? (i := 63) rfl))) (notFace_of_selects (args := #[]) (mvT hZ (hw _ (List.mem_of_getElem? (i := 65) rfl)))) (mvT hZ (hw _ (List.mem_of_getElem? (i := 65) rfl))) (mvT hZ (hw _ (List.mem_of_getElem? (i := 64) rfl))) (by decide) (backOf (W := 0) (rmChU l Z a0 hw [] r0 (1 : Int32) ta kb (6 : Int32) [(.int (nar .byte ((c0 >>> ((0 : Int32) &&& 31)).toInt8.toInt32))), (.int (nar .byte ((c0 >>> ((8 : Int32) &&& 31)).toInt8.toInt32))), (.int (nar .byte ((c1 >>> ((0 : Int32) &&& 31)).toInt8.toInt32))), (.int (nar .byte ((c1 >>> ((8 : Int32) &&& 31)).toInt8.toInt32))), (.int (nar .byte ((c2 >>> ((0 : Int32) &&& 31)).toInt8.toInt32))), (.int (nar .byte ((c2 >>> ((8 : Int32) &&& 31)).toInt8.toInt32)))] (nar .byte ((c1 >>> ((0 : Int32) &&& 31)).toInt8.toInt32)) (nar .byte ((c1 >>> ((8 : Int32) &&& 31)).toInt8.toInt32)) c1 cst fv h0 n0 Z0 E0 Fc Fv V0 O0 (by decide) (by decide) (by decide) (by decide) rfl rfl (own_utf c1 hb1) SS) hZ (hw _ (List.mem_of_getElem? (i := 66) rfl)) (hw _ (List.mem_of_getElem? (i := 8) rfl)) (by decide) (by decide)) q12a q12c (g := (mkF m 16 #[rv r0, iv 0, iv 2, iv 1, iv c0] [(.int (1 : Int32)), (.ref r0)])) rfl (by rw [hml]; rfl) (Steps.refl _) (argsL := [(.int (1 : Int32))]) (rest := []) (lenOf pd_13 rfl) rfl (by show 2 * 0 + _ ≤ _; exact Nat.le_of_eq rfl) (hb hby d8_16) (fun _ _ => ⟨rfl, e7, (by decide : 0 + 0 ≤ _), (by decide : 0 + 0 ≤ _)⟩)
   dsimp only [Pt.U, Pt.locs, Pt.cells, Pt.slots] at X12 l12 y12 z12 st12 hQ12
   subst l12 y12 z12
   obtain ⟨rfl, N12q, eh12⟩ := hQ12
   have N12 := Fr.app N3 N12q
   obtain ⟨T13, X13, e13, st13⟩ := getS2 X12 hx hZ hown (host := "") (Or.inl (hw _ (List.mem_of_getElem? (i := 89) rfl))) Via.refl eh12 (TS.ext O0.2) (g := (mkF m 23 #[rv r0, iv 0, iv 2, iv 1, iv c1] [(.int c1)])) rfl (hb hby d8_23)
   have G14 : ∀ t, Steps p.tables e below (T13.setTop (mkF m 27 #[rv r0, iv 0, iv 2, iv 1, iv c1] [(.int (128 : Int32)), (.int c1)])) t → Steps p.tables e below (s₁.setTop (entryFrame m #[(.ref r0), (.int (0 : Int32)), (.int (2 : Int32))] 5)) t := by
    intro t kt
    refine G11 _ ?_
    refine XS.icmpNo X7.here hx rfl (hb hby d8_11) rfl (tlt (by decide)).2.1 ?_
    refine XS.aloadN X7.here hx rfl (hb hby d8_14) rfl rfl ?_
    refine XS.iloadN X7.here hx rfl (hb hby d8_15) rfl ?_
    refine st12.trans ?_
    refine XS.istore X12.here hx rfl (hb hby d8_19) rfl (l' := #[rv r0, iv 0, iv 2, iv 1, iv c1]) rfl ?_
    refine XS.iload X12.here hx rfl (hb hby d8_21) rfl ?_
    refine st13 _ ?_
    refine X13.arraylength hx (by rw [e13]; exact (TA.ext O0.2).1) (State.isArrayOf_alike hZ.alike (TA.ext O0.2).2.1) (g := (mkF m 26 #[rv r0, iv 0, iv 2, iv 1, iv c1] [(.ref tt), (.int c1)])) rfl rfl (hb hby d8_26) _ ?_
    rw [len_of TS2 (by decide)]
    exact kt
   by_cases hc27_15 : c1 < (128 : Int32)
   ·skip
    obtain ⟨T16, X16, e16, st16⟩ := getS2 X13 hx hZ hown (host := "") (Or.inl (hw _ (List.mem_of_getElem? (i := 89) rfl))) Via.refl e13 (TS.ext O0.2) (g := (mkF m 30 #[rv r0, iv 0, iv 2, iv 1, iv c1] [])) rfl (hb hby d8_30)
    have hn17 : ¬ (c1 < (0 : Int32)) := by rw [Int32.lt_iff_toInt_lt]; exact Int.not_lt.mpr hb1.1
    have hin17 : ¬ (c1 < 0 ∨ ct.slots.size ≤ (c1).toNatClampNeg) := inb_of TS2 ⟨hn17, hc27_15⟩
    have hat17 := TV c1 hn17 hc27_15
    have G18 : ∀ t, Steps p.tables e below (T16.setTop (mkF m 36 #[rv r0, iv 0, iv 2, iv 1, iv c1] [(.int (fisT c1))])) t → Steps p.tables e below (s₁.setTop (entryFrame m #[(.ref r0), (.int (0 : Int32)), (.int (2 : Int32))] 5)) t := by
     intro t kt
     refine G14 _ ?_
     refine XS.icmpNo X13.here hx rfl (hb hby d8_27) rfl (tlt hc27_15).2.1 ?_
     refine st16 _ ?_
     refine XS.iload X16.here hx rfl (hb hby d8_33) rfl ?_
     refine X16.baloadBooleans hx (j := c1) (v := (.int (fisT c1))) (by rw [e16]; exact (TA.ext O0.2).1) (State.isArrayOf_alike hZ.alike (TA.ext O0.2).2.1) (TA.ext O0.2).2.2 hin17 hat17 (g := (mkF m 35 #[rv r0, iv 0, iv 2, iv 1, iv c1] [(.int c1), (.ref tt)])) rfl rfl (hb hby d8_35) _ ?_
     exact kt
    by_cases hc36_19 : (fisT c1) = (0 : Int32)
    ·skip
     obtain ⟨fs, hr, hrun, hended, hW, hsame⟩ := X16.leave (v := some (.int (0 : Int32))) (fun h => by rw [Bd.returns] at h; cases h)
     refine ⟨_, _, G18 _ ?_, hrun, hended, _, _, rfl, ?_, ⟨_, rfl⟩, hW, hsame.mono (by decide) (by decide)⟩
     ·skip
      refine XS.ifNo X16.here hx rfl (hb hby d8_36) rfl ((if0 _ _).trans (teq hc36_19).2) ?_
      refine XS.iconst X16.here hx rfl (hb hby d8_39) ?_
      exact retN X16 hx (t := .boolean) Bd.returns (by simp) (hb hby d8_40) hr
     ·show QrmTokU02 Z r0 c0 c1 c2 ta kb tt ct cst fv h0 n0 _ T16.heap _
      rw [e16]
      exact ⟨by rw [own_tok, if_neg hc36_10, own_tok, if_pos hc36_19], N12, rfl⟩
    ·skip
     have G20 : ∀ t, Steps p.tables e below (T16.setTop (mkF m 11 #[rv r0, iv 0, iv 2, iv 2, iv c1] [(.int (2 : Int32)), (.int (2 : Int32))])) t → Steps p.tables e below (s₁.setTop (entryFrame m #[(.ref r0), (.int (0 : Int32)), (.int (2 : Int32))] 5)) t := by
      intro t kt
      refine G18 _ ?_
      refine XS.ifYes X16.here hx rfl (pc0 := 36) (pc' := 41) rfl (hb hby d8_36) rfl ((if0 _ _).trans (feq hc36_19).2) (by decide) (by decide) ?_
      refine XS.iinc X16.here hx rfl (hb hby d8_41) rfl (l' := #[rv r0, iv 0, iv 2, iv 2, iv c1]) rfl ?_
      refine XS.goto X16.here hx rfl (pc0 := 44) (pc' := 9) rfl (hb hby d8_44) (by decide) (by decide) ?_
      refine XS.iloadN X16.here hx rfl (hb hby d8_9) rfl ?_
      refine XS.iloadN X16.here hx rfl (hb hby d8_10) rfl ?_
      exact kt
     obtain ⟨fs, hr, hrun, hended, hW, hsame⟩ := X16.leave (v := some (.int (1 : Int32))) (fun h => by rw [Bd.returns] at h; cases h)
     refine ⟨_, _, G20 _ ?_, hrun, hended, _, _, rfl, ?_, ⟨_, rfl⟩, hW, hsame.mono (by decide) (by decide)⟩
     ·skip
      refine XS.icmpYes X16.here hx rfl (pc0 := 11) (pc' := 47) rfl (hb hby d8_11) rfl (flt (by decide)).2.1 (by decide) (by decide) ?_
      refine XS.iconst X16.here hx rfl (hb hby d8_47) ?_
      exact retN X16 hx (t := .boolean) Bd.returns (by simp) (hb hby d8_48) hr
     ·show QrmTokU02 Z r0 c0 c1 c2 ta kb tt ct cst fv h0 n0 _ T16.heap _
      rw [e16]
      exact ⟨by rw [own_tok, if_neg hc36_10, own_tok, if_neg hc36_19, own_tok], N12, rfl⟩
   ·skip
    obtain ⟨fs, hr, hrun, hended, hW, hsame⟩ := X13.leave (v := some (.int (0 : Int32))) (fun h => by rw [Bd.returns] at h; cases h)
    refine ⟨_, _, G14 _ ?_, hrun, hended, _, _, rfl, ?_, ⟨_, rfl⟩, hW, hsame.mono (by decide) (by decide)⟩
    ·skip
     refine XS.icmpYes X13.here hx rfl (pc0 := 27) (pc' := 39) rfl (hb hby d8_27) rfl (flt hc27_15).2.1 (by decide) (by decide) ?_
     refine XS.iconst X13.here hx rfl (hb hby d8_39) ?_
     exact retN X13 hx (t := .boolean) Bd.returns (by simp) (hb hby d8_40) hr
    ·show QrmTokU02 Z r0 c0 c1 c2 ta kb tt ct cst fv h0 n0 _ T13.heap _
     rw [e13]
     exact ⟨by rw [own_tok, if_neg hc36_10, own_tok, if_pos (own_big c1 hc27_15)], N12, rfl⟩
 ·skip
  obtain ⟨fs, hr, hrun, hended, hW, hsame⟩ := X4.leave (v := some (.int (0 : Int32))) (fun h => by rw [Bd.returns] at h; cases h)
  refine ⟨_, _, G5 _ ?_, hrun, hended, _, _, rfl, ?_, ⟨_, rfl⟩, hW, hsame.mono (by decide) (by decide)⟩
  ·skip
   refine XS.icmpYes X4.here hx rfl (pc0 := 27) (pc' := 39) rfl (hb hby d8_27) rfl (flt hc27_6).2.1 (by decide) (by decide) ?_
   refine XS.iconst X4.here hx rfl (hb hby d8_39) ?_
   exact retN X4 hx (t := .boolean) Bd.returns (by simp) (hb hby d8_40) hr
  ·show QrmTokU02 Z r0 c0 c1 c2 ta kb tt ct cst fv h0 n0 _ T4.heap _
   rw [e4]
   exact ⟨by rw [own_tok, if_pos (own_big c0 hc27_6)], N3, rfl⟩
def QrmTokU03 (Z : State) (r0 : Addr) (c0 c1 c2 : Int32) (ta : Addr) (kb : ClassId) (tt : Addr) (ct : Cell) (cst : Int32) (fv : Value) (h0 : Heap) (n0 : Nat) (v : Option Value) (h : Heap) (L : List Loc) : Prop := v = some (.int (own_tok [c0, c1, c2])) ∧ Fr n0 L ∧ h = h0
theorem ef_rmTokU03 (m : MethodId) (x0 : Addr) (x1 : Int32) (x2 : Int32) : entryFrame m #[(.ref x0), (.int x1), (.int x2)] 5 = mkF m 0 #[.val (.ref x0), .val (.int x1), .val (.int x2), .unset, .unset] [] := by first | (simp [entryFrame, mkF, argsToLocals, Value.category]; done) | rfl
set_option maxRecDepth 65536 in
set_option maxHeartbeats 40000000 in
theorem rmTokU03 (l : Launch) (Z : State) (a0 : Array Value) (hw : ∀ d ∈ tables_1, d.before a0 Z = true) (ws : List Jvm.Cond) (r0 : Addr) (c0 c1 c2 : Int32) (ta : Addr) (kb : ClassId) (tt : Addr) (ct : Cell) (cst : Int32) (fv : Value) (h0 : Heap) (n0 : Nat) (Z0 : n0 ≤ h0.size) (E0 : Exa Z h0 r0 "java/lang/String") (Fc : Fld Z h0 r0 "java/lang/String" "coder" "B" (.int (1 : Int32))) (Fv : Fld Z h0 r0 "java/lang/String" "value" "[B" (.ref ta)) (V0 : Arv Z h0 ta kb .byte (6 : Int32) [(.int (nar .byte ((c0 >>> ((0 : Int32) &&& 31)).toInt8.toInt32))), (.int (nar .byte ((c0 >>> ((8 : Int32) &&& 31)).toInt8.toInt32))), (.int (nar .byte ((c1 >>> ((0 : Int32) &&& 31)).toInt8.toInt32))), (.int (nar .byte ((c1 >>> ((8 : Int32) &&& 31)).toInt8.toInt32))), (.int (nar .byte ((c2 >>> ((0 : Int32) &&& 31)).toInt8.toInt32))), (.int (nar .byte ((c2 >>> ((8 : Int32) &&& 31)).toInt8.toInt32)))] (.int (0 : Int32))) (O0 : Old Z n0 h0) (hb0 : 0 ≤ c0.toInt ∧ c0.toInt ≤ 65535) (hb1 : 0 ≤ c1.toInt ∧ c1.toInt ≤ 65535) (hb2 : 0 ≤ c2.toInt ∧ c2.toInt ≤ 65535) (TS : Sta Z Z.heap "com/example/wary_bearer/warybearer/http/Http1Reader" "TCHAR" "[Z" (.ref tt)) (TA : Arr Z Z.heap tt ct .boolean) (TS2 : ct.slots.size = (128 : Int32).toNatClampNeg) (TV : ∀ j : Int32, ¬ (j < (0 : Int32)) → j < (128 : Int32) → ct.slots[j.toNatClampNeg]? = some (.int (fisT j))) (SS : Sts Z cst fv) :
  MetFree l (⟨"com/example/wary_bearer/warybearer/http/Http1Reader", "isToken", "(Ljava/lang/String;II)Z"⟩ : MethodName) (head1 (Jvm.Cond.code (⟨"com/example/wary_bearer/warybearer/http/Http1Reader", "isToken", "(Ljava/lang/String;II)Z"⟩ : MethodName) prog_13_method_12_code 5 (some .boolean) :: ws) ({ frames := 5, cells := 0, slots := 0, locals := 66 } : Room)) (fun a U => a = #[(.ref r0), (.int (0 : Int32)), (.int (3 : Int32))] ∧ Z.Warmed39 U.vm ∧ U.heap = h0) (fun _ _ _ _ _ => True) (fun _ U o U' => ∃ v L, o = .returned v ∧ QrmTokU03 Z r0 c0 c1 c2 ta kb tt ct cst fv h0 n0 v U'.heap L ∧ FrameEnd U o U' L ({ frames := 5, cells := 0, slots := 0, locals := 66 } : Room).cells ({ frames := 5, cells := 0, slots := 0, locals := 66 } : Room).slots) := by
 refine MetFree.of_bodySF (plainFor_of_name pnc_com_example_wary_bearer_warybearer_http_Http1Reader) hisR ?_
 intro p e s m args below meth c s₁ Bd hml0 hP hK
 obtain ⟨rfl, hZ, hh⟩ := hP
 have hx := Bd.exec
 have hby := Bd.bytes
 have hml : c.maxLocals = 5 := hml0
 have hown : s.vm.findClass "com/example/wary_bearer/warybearer/http/Http1Reader" = some m.cls := findClass_of_methodNamed Bd.named
 have hnm := (name_of_methodNamed Bd.named Bd.method).1
 have X0 : Stand p l e ({ frames := 5, cells := 0, slots := 0, locals := 66 } : Room) s m #[(.ref r0), (.int (0 : Int32)), (.int (3 : Int32))] below meth c s₁ [] 0 0 := Stand.of_body Bd
 have e0 : s₁.heap = h0 := by rw [← hh, Bd.state]; rfl
 have N0 := Fr.nil n0
 have kp0 : Keep h0 h0 [] := Keep.refl _ _
 have G0 : ∀ t, Steps p.tables e below (s₁.setTop (mkF m 0 #[rv r0, iv 0, iv 3, .unset, .unset] [])) t → Steps p.tables e below (s₁.setTop (entryFrame m #[(.ref r0), (.int (0 : Int32)), (.int (3 : Int32))] 5)) t := fun t k => castTop (ef_rmTokU03 m r0 (0 : Int32) (3 : Int32)) k
 have G1 : ∀ t, Steps p.tables e below (s₁.setTop (mkF m 2 #[rv r0, iv 0, iv 3, .unset, .unset] [(.int (3 : Int32)), (.int (0 : Int32))])) t → Steps p.tables e below (s₁.setTop (entryFrame m #[(.ref r0), (.int (0 : Int32)), (.int (3 : Int32))] 5)) t := by
  intro t kt
  refine G0 _ ?_
  refine XS.iloadN X0.here hx rfl (hb hby d8_0) rfl ?_
  refine XS.iloadN X0.here hx rfl (hb hby d8_1) rfl ?_
  exact kt
 have G2 : ∀ t, Steps p.tables e below (s₁.setTop (mkF m 11 #[rv r0, iv 0, iv 3, iv 0, .unset] [(.int (3 : Int32)), (.int (0 : Int32))])) t → Steps p.tables e below (s₁.setTop (entryFrame m #[(.ref r0), (.int (0 : Int32)), (.int (3 : Int32))] 5)) t := by
  intro t kt
  refine G1 _ ?_
  refine XS.icmpYes X0.here hx rfl (pc0 := 2) (pc' := 7) rfl (hb hby d8_2) rfl (tlt (by decide)).1 (by decide) (by decide) ?_
  refine XS.iloadN X0.here hx rfl (hb hby d8_7) rfl ?_
  refine XS.istoreN X0.here hx rfl (hb hby d8_8) rfl (l' := #[rv r0, iv 0, iv 3, iv 0, .unset]) rfl ?_
  refine XS.iloadN X0.here hx rfl (hb hby d8_9) rfl ?_
  refine XS.iloadN X0.here hx rfl (hb hby d8_10) rfl ?_
  exact kt
 obtain ⟨cq3, kq3, q3a, q3b, q3c⟩ := isOf hZ e0 E0
 obtain ⟨_, _, ⟨T3, L3, k3, n3⟩, -, X3, ⟨Lc3, hQ3, l3, y3, z3⟩, st3⟩ := X0.virtualBack hx (y := (⟨"java/lang/String", "charAt", "(I)C"⟩ : MethodName)) (z := (⟨"java/lang/String", "charAt", "(I)C"⟩ : MethodName)) hown (mvT hZ (hw _ (List.mem_of_getElem? (i := 62) rfl))) (mvT hZ (hw _ (List.mem_of_getElem? (i := 63) rfl))) (notFace_of_selects (args := #[]) (mvT hZ (hw _ (List.mem_of_getElem? (i := 65) rfl)))) (mvT hZ (hw _ (List.mem_of_getElem? (i := 65) rfl))) (mvT hZ (hw _ (List.mem_of_getElem? (i := 64) rfl))) (by decide) (backOf (W := 0) (rmChU l Z a0 hw [] r0 (0 : Int32) ta kb (6 : Int32) [(.int (nar .byte ((c0 >>> ((0 : Int32) &&& 31)).toInt8.toInt32))), (.int (nar .byte ((c0 >>> ((8 : Int32) &&& 31)).toInt8.toInt32))), (.int (nar .byte ((c1 >>> ((0 : Int32) &&& 31)).toInt8.toInt32))), (.int (nar .byte ((c1 >>> ((8 : Int32) &&& 31)).toInt8.toInt32))), (.int (nar .byte ((c2 >>> ((0 : Int32) &&& 31)).toInt8.toInt32))), (.int (nar .byte ((c2 >>> ((8 : Int32) &&& 31)).toInt8.toInt32)))] (nar .byte ((c0 >>> ((0 : Int32) &&& 31)).toInt8.toInt32)) (nar .byte ((c0 >>> ((8 : Int32) &&& 31)).toInt8.toInt32)) c0 cst fv h0 n0 Z0 E0 Fc Fv V0 O0 (by decide) (by decide) (by decide) (by decide) rfl rfl (own_utf c0 hb0) SS) hZ (hw _ (List.mem_of_getElem? (i := 66) rfl)) (hw _ (List.mem_of_getElem? (i := 8) rfl)) (by decide) (by decide)) q3a q3c (g := (mkF m 16 #[rv r0, iv 0, iv 3, iv 0, .unset] [(.int (0 : Int32)), (.ref r0)])) rfl (by rw [hml]; rfl) (Steps.refl _) (argsL := [(.int (0 : Int32))]) (rest := []) (lenOf pd_13 rfl) rfl (by show 2 * 0 + _ ≤ _; exact Nat.le_of_eq rfl) (hb hby d8_16) (fun _ _ => ⟨rfl, e0, (by decide : 0 + 0 ≤ _), (by decide : 0 + 0 ≤ _)⟩)
 dsimp only [Pt.U, Pt.locs, Pt.cells, Pt.slots] at X3 l3 y3 z3 st3 hQ3
 subst l3 y3 z3
 obtain ⟨rfl, N3q, eh3⟩ := hQ3
 have N3 := Fr.app N0 N3q
 obtain ⟨T4, X4, e4, st4⟩ := getS2 X3 hx hZ hown (host := "") (Or.inl (hw _ (List.mem_of_getElem? (i := 89) rfl))) Via.refl eh3 (TS.ext O0.2) (g := (mkF m 23 #[rv r0, iv 0, iv 3, iv 0, iv c0] [(.int c0)])) rfl (hb hby d8_23)
 have G5 : ∀ t, Steps p.tables e below (T4.setTop (mkF m 27 #[rv r0, iv 0, iv 3, iv 0, iv c0] [(.int (128 : Int32)), (.int c0)])) t → Steps p.tables e below (s₁.setTop (entryFrame m #[(.ref r0), (.int (0 : Int32)), (.int (3 : Int32))] 5)) t := by
  intro t kt
  refine G2 _ ?_
  refine XS.icmpNo X0.here hx rfl (hb hby d8_11) rfl (tlt (by decide)).2.1 ?_
  refine XS.aloadN X0.here hx rfl (hb hby d8_14) rfl rfl ?_
  refine XS.iloadN X0.here hx rfl (hb hby d8_15) rfl ?_
  refine st3.trans ?_
  refine XS.istore X3.here hx rfl (hb hby d8_19) rfl (l' := #[rv r0, iv 0, iv 3, iv 0, iv c0]) rfl ?_
  refine XS.iload X3.here hx rfl (hb hby d8_21) rfl ?_
  refine st4 _ ?_
  refine X4.arraylength hx (by rw [e4]; exact (TA.ext O0.2).1) (State.isArrayOf_alike hZ.alike (TA.ext O0.2).2.1) (g := (mkF m 26 #[rv r0, iv 0, iv 3, iv 0, iv c0] [(.ref tt), (.int c0)])) rfl rfl (hb hby d8_26) _ ?_
  rw [len_of TS2 (by decide)]
  exact kt
 by_cases hc27_6 : c0 < (128 : Int32)
 ·skip
  obtain ⟨T7, X7, e7, st7⟩ := getS2 X4 hx hZ hown (host := "") (Or.inl (hw _ (List.mem_of_getElem? (i := 89) rfl))) Via.refl e4 (TS.ext O0.2) (g := (mkF m 30 #[rv r0, iv 0, iv 3, iv 0, iv c0] [])) rfl (hb hby d8_30)
  have hn8 : ¬ (c0 < (0 : Int32)) := by rw [Int32.lt_iff_toInt_lt]; exact Int.not_lt.mpr hb0.1
  have hin8 : ¬ (c0 < 0 ∨ ct.slots.size ≤ (c0).toNatClampNeg) := inb_of TS2 ⟨hn8, hc27_6⟩
  have hat8 := TV c0 hn8 hc27_6
  have G9 : ∀ t, Steps p.tables e below (T7.setTop (mkF m 36 #[rv r0, iv 0, iv 3, iv 0, iv c0] [(.int (fisT c0))])) t → Steps p.tables e below (s₁.setTop (entryFrame m #[(.ref r0), (.int (0 : Int32)), (.int (3 : Int32))] 5)) t := by
   intro t kt
   refine G5 _ ?_
   refine XS.icmpNo X4.here hx rfl (hb hby d8_27) rfl (tlt hc27_6).2.1 ?_
   refine st7 _ ?_
   refine XS.iload X7.here hx rfl (hb hby d8_33) rfl ?_
   refine X7.baloadBooleans hx (j := c0) (v := (.int (fisT c0))) (by rw [e7]; exact (TA.ext O0.2).1) (State.isArrayOf_alike hZ.alike (TA.ext O0.2).2.1) (TA.ext O0.2).2.2 hin8 hat8 (g := (mkF m 35 #[rv r0, iv 0, iv 3, iv 0, iv c0] [(.int c0), (.ref tt)])) rfl rfl (hb hby d8_35) _ ?_
   exact kt
  by_cases hc36_10 : (fisT c0) = (0 : Int32)
  ·skip
   obtain ⟨fs, hr, hrun, hended, hW, hsame⟩ := X7.leave (v := some (.int (0 : Int32))) (fun h => by rw [Bd.returns] at h; cases h)
   refine ⟨_, _, G9 _ ?_, hrun, hended, _, _, rfl, ?_, ⟨_, rfl⟩, hW, hsame.mono (by decide) (by decide)⟩
   ·skip
    refine XS.ifNo X7.here hx rfl (hb hby d8_36) rfl ((if0 _ _).trans (teq hc36_10).2) ?_
    refine XS.iconst X7.here hx rfl (hb hby d8_39) ?_
    exact retN X7 hx (t := .boolean) Bd.returns (by simp) (hb hby d8_40) hr
   ·show QrmTokU03 Z r0 c0 c1 c2 ta kb tt ct cst fv h0 n0 _ T7.heap _
    rw [e7]
    exact ⟨by rw [own_tok, if_pos hc36_10], N3, rfl⟩
  ·skip
   have G11 : ∀ t, Steps p.tables e below (T7.setTop (mkF m 11 #[rv r0, iv 0, iv 3, iv 1, iv c0] [(.int (3 : Int32)), (.int (1 : Int32))])) t → Steps p.tables e below (s₁.setTop (entryFrame m #[(.ref r0), (.int (0 : Int32)), (.int (3 : Int32))] 5)) t := by
    intro t kt
    refine G9 _ ?_
    refine XS.ifYes X7.here hx rfl (pc0 := 36) (pc' := 41) rfl (hb hby d8_36) rfl ((if0 _ _).trans (feq hc36_10).2) (by decide) (by decide) ?_
    refine XS.iinc X7.here hx rfl (hb hby d8_41) rfl (l' := #[rv r0, iv 0, iv 3, iv 1, iv c0]) rfl ?_
    refine XS.goto X7.here hx rfl (pc0 := 44) (pc' := 9) rfl (hb hby d8_44) (by decide) (by decide) ?_
    refine XS.iloadN X7.here hx rfl (hb hby d8_9) rfl ?_
    show Steps p.tables e below (T7.setTop (mkF m 10 #[rv r0, iv 0, iv 3, iv 1, iv c0] [(.int (1 : Int32))])) _
    refine XS.iloadN X7.here hx rfl (hb hby d8_10) rfl ?_
    exact kt
   obtain ⟨cq12, kq12, q12a, q12b, q12c⟩ := isOf hZ e7 E0
   obtain ⟨_, _, ⟨T12, L12, k12, n12⟩, -, X12, ⟨Lc12, hQ12, l12, y12, z12⟩, st12⟩ := X7.virtualBack hx (y := (⟨"java/lang/String", "charAt", "(I)C"⟩ : MethodName)) (z := (⟨"java/lang/String", "charAt", "(I)C"⟩ : MethodName)) hown (mvT hZ (hw _ (List.mem_of_getElem? (i := 62) rfl))) (mvT hZ (hw _ (List.mem_of_getElem? (i := 63) rfl))) (notFace_of_selects (args := #[]) (mvT hZ (hw _ (List.mem_of_getElem? (i := 65) rfl)))) (mvT hZ (hw _ (List.mem_of_getElem? (i := 65) rfl))) (mvT hZ (hw _ (List.mem_of_getElem? (i := 64) rfl))) (by decide) (backOf (W := 0) (rmChU l Z a0 hw [] r0 (1 : Int32) ta kb (6 : Int32) [(.int (nar .byte ((c0 >>> ((0 : Int32) &&& 31)).toInt8.toInt32))), (.int (nar .byte ((c0 >>> ((8 : Int32) &&& 31)).toInt8.toInt32))), (.int (nar .byte ((c1 >>> ((0 : Int32) &&& 31)).toInt8.toInt32))), (.int (nar .byte ((c1 >>> ((8 : Int32) &&& 31)).toInt8.toInt32))), (.int (nar .byte ((c2 >>> ((0 : Int32) &&& 31)).toInt8.toInt32))), (.int (nar .byte ((c2 >>> ((8 : Int32) &&& 31)).toInt8.toInt32)))] (nar .byte ((c1 >>> ((0 : Int32) &&& 31)).toInt8.toInt32)) (nar .byte ((c1 >>> ((8 : Int32) &&& 31)).toInt8.toInt32)) c1 cst fv h0 n0 Z0 E0 Fc Fv V0 O0 (by decide) (by decide) (by decide) (by decide) rfl rfl (own_utf c1 hb1) SS) hZ (hw _ (List.mem_of_getElem? (i := 66) rfl)) (hw _ (List.mem_of_getElem? (i := 8) rfl)) (by decide) (by decide)) q12a q12c (g := (mkF m 16 #[rv r0, iv 0, iv 3, iv 1, iv c0] [(.int (1 : Int32)), (.ref r0)])) rfl (by rw [hml]; rfl) (Steps.refl _) (argsL := [(.int (1 : Int32))]) (rest := []) (lenOf pd_13 rfl) rfl (by show 2 * 0 + _ ≤ _; exact Nat.le_of_eq rfl) (hb hby d8_16) (fun _ _ => ⟨rfl, e7, (by decide : 0 + 0 ≤ _), (by decide : 0 + 0 ≤ _)⟩)
   dsimp only [Pt.U, Pt.locs, Pt.cells, Pt.slots] at X12 l12 y12 z12 st12 hQ12
   subst l12 y12 z12
   obtain ⟨rfl, N12q, eh12⟩ := hQ12
   have N12 := Fr.app N3 N12q
   obtain ⟨T13, X13, e13, st13⟩ := getS2 X12 hx hZ hown (host := "") (Or.inl (hw _ (List.mem_of_getElem? (i := 89) rfl))) Via.refl eh12 (TS.ext O0.2) (g := (mkF m 23 #[rv r0, iv 0, iv 3, iv 1, iv c1] [(.int c1)])) rfl (hb hby d8_23)
   have G14 : ∀ t, Steps p.tables e below (T13.setTop (mkF m 27 #[rv r0, iv 0, iv 3, iv 1, iv c1] [(.int (128 : Int32)), (.int c1)])) t → Steps p.tables e below (s₁.setTop (entryFrame m #[(.ref r0), (.int (0 : Int32)), (.int (3 : Int32))] 5)) t := by
    intro t kt
    refine G11 _ ?_
    refine XS.icmpNo X7.here hx rfl (hb hby d8_11) rfl (tlt (by decide)).2.1 ?_
    refine XS.aloadN X7.here hx rfl (hb hby d8_14) rfl rfl ?_
    refine XS.iloadN X7.here hx rfl (hb hby d8_15) rfl ?_
    refine st12.trans ?_
    refine XS.istore X12.here hx rfl (hb hby d8_19) rfl (l' := #[rv r0, iv 0, iv 3, iv 1, iv c1]) rfl ?_
    refine XS.iload X12.here hx rfl (hb hby d8_21) rfl ?_
    refine st13 _ ?_
    refine X13.arraylength hx (by rw [e13]; exact (TA.ext O0.2).1) (State.isArrayOf_alike hZ.alike (TA.ext O0.2).2.1) (g := (mkF m 26 #[rv r0, iv 0, iv 3, iv 1, iv c1] [(.ref tt), (.int c1)])) rfl rfl (hb hby d8_26) _ ?_
    rw [len_of TS2 (by decide)]
    exact kt
   by_cases hc27_15 : c1 < (128 : Int32)
   ·skip
    obtain ⟨T16, X16, e16, st16⟩ := getS2 X13 hx hZ hown (host := "") (Or.inl (hw _ (List.mem_of_getElem? (i := 89) rfl))) Via.refl e13 (TS.ext O0.2) (g := (mkF m 30 #[rv r0, iv 0, iv 3, iv 1, iv c1] [])) rfl (hb hby d8_30)
    have hn17 : ¬ (c1 < (0 : Int32)) := by rw [Int32.lt_iff_toInt_lt]; exact Int.not_lt.mpr hb1.1
    have hin17 : ¬ (c1 < 0 ∨ ct.slots.size ≤ (c1).toNatClampNeg) := inb_of TS2 ⟨hn17, hc27_15⟩
    have hat17 := TV c1 hn17 hc27_15
    have G18 : ∀ t, Steps p.tables e below (T16.setTop (mkF m 36 #[rv r0, iv 0, iv 3, iv 1, iv c1] [(.int (fisT c1))])) t → Steps p.tables e below (s₁.setTop (entryFrame m #[(.ref r0), (.int (0 : Int32)), (.int (3 : Int32))] 5)) t := by
     intro t kt
     refine G14 _ ?_
     refine XS.icmpNo X13.here hx rfl (hb hby d8_27) rfl (tlt hc27_15).2.1 ?_
     refine st16 _ ?_
     refine XS.iload X16.here hx rfl (hb hby d8_33) rfl ?_
     refine X16.baloadBooleans hx (j := c1) (v := (.int (fisT c1))) (by rw [e16]; exact (TA.ext O0.2).1) (State.isArrayOf_alike hZ.alike (TA.ext O0.2).2.1) (TA.ext O0.2).2.2 hin17 hat17 (g := (mkF m 35 #[rv r0, iv 0, iv 3, iv 1, iv c1] [(.int c1), (.ref tt)])) rfl rfl (hb hby d8_35) _ ?_
     exact kt
    by_cases hc36_19 : (fisT c1) = (0 : Int32)
    ·skip
     obtain ⟨fs, hr, hrun, hended, hW, hsame⟩ := X16.leave (v := some (.int (0 : Int32))) (fun h => by rw [Bd.returns] at h; cases h)
     refine ⟨_, _, G18 _ ?_, hrun, hended, _, _, rfl, ?_, ⟨_, rfl⟩, hW, hsame.mono (by decide) (by decide)⟩
     ·skip
      refine XS.ifNo X16.here hx rfl (hb hby d8_36) rfl ((if0 _ _).trans (teq hc36_19).2) ?_
      refine XS.iconst X16.here hx rfl (hb hby d8_39) ?_
      exact retN X16 hx (t := .boolean) Bd.returns (by simp) (hb hby d8_40) hr
     ·show QrmTokU03 Z r0 c0 c1 c2 ta kb tt ct cst fv h0 n0 _ T16.heap _
      rw [e16]
      exact ⟨by rw [own_tok, if_neg hc36_10, own_tok, if_pos hc36_19], N12, rfl⟩
    ·skip
     have G20 : ∀ t, Steps p.tables e below (T16.setTop (mkF m 11 #[rv r0, iv 0, iv 3, iv 2, iv c1] [(.int (3 : Int32)), (.int (2 : Int32))])) t → Steps p.tables e below (s₁.setTop (entryFrame m #[(.ref r0), (.int (0 : Int32)), (.int (3 : Int32))] 5)) t := by
      intro t kt
      refine G18 _ ?_
      refine XS.ifYes X16.here hx rfl (pc0 := 36) (pc' := 41) rfl (hb hby d8_36) rfl ((if0 _ _).trans (feq hc36_19).2) (by decide) (by decide) ?_
      refine XS.iinc X16.here hx rfl (hb hby d8_41) rfl (l' := #[rv r0, iv 0, iv 3, iv 2, iv c1]) rfl ?_
      refine XS.goto X16.here hx rfl (pc0 := 44) (pc' := 9) rfl (hb hby d8_44) (by decide) (by decide) ?_
      refine XS.iloadN X16.here hx rfl (hb hby d8_9) rfl ?_
      refine XS.iloadN X16.here hx rfl (hb hby d8_10) rfl ?_
      exact kt
     obtain ⟨cq21, kq21, q21a, q21b, q21c⟩ := isOf hZ e16 E0
     obtain ⟨_, _, ⟨T21, L21, k21, n21⟩, -, X21, ⟨Lc21, hQ21, l21, y21, z21⟩, st21⟩ := X16.virtualBack hx (y := (⟨"java/lang/String", "charAt", "(I)C"⟩ : MethodName)) (z := (⟨"java/lang/String", "charAt", "(I)C"⟩ : MethodName)) hown (mvT hZ (hw _ (List.mem_of_getElem? (i := 62) rfl))) (mvT hZ (hw _ (List.mem_of_getElem? (i := 63) rfl))) (notFace_of_selects (args := #[]) (mvT hZ (hw _ (List.mem_of_getElem? (i := 65) rfl)))) (mvT hZ (hw _ (List.mem_of_getElem? (i := 65) rfl))) (mvT hZ (hw _ (List.mem_of_getElem? (i := 64) rfl))) (by decide) (backOf (W := 0) (rmChU l Z a0 hw [] r0 (2 : Int32) ta kb (6 : Int32) [(.int (nar .byte ((c0 >>> ((0 : Int32) &&& 31)).toInt8.toInt32))), (.int (nar .byte ((c0 >>> ((8 : Int32) &&& 31)).toInt8.toInt32))), (.int (nar .byte ((c1 >>> ((0 : Int32) &&& 31)).toInt8.toInt32))), (.int (nar .byte ((c1 >>> ((8 : Int32) &&& 31)).toInt8.toInt32))), (.int (nar .byte ((c2 >>> ((0 : Int32) &&& 31)).toInt8.toInt32))), (.int (nar .byte ((c2 >>> ((8 : Int32) &&& 31)).toInt8.toInt32)))] (nar .byte ((c2 >>> ((0 : Int32) &&& 31)).toInt8.toInt32)) (nar .byte ((c2 >>> ((8 : Int32) &&& 31)).toInt8.toInt32)) c2 cst fv h0 n0 Z0 E0 Fc Fv V0 O0 (by decide) (by decide) (by decide) (by decide) rfl rfl (own_utf c2 hb2) SS) hZ (hw _ (List.mem_of_getElem? (i := 66) rfl)) (hw _ (List.mem_of_getElem? (i := 8) rfl)) (by decide) (by decide)) q21a q21c (g := (mkF m 16 #[rv r0, iv 0, iv 3, iv 2, iv c1] [(.int (2 : Int32)), (.ref r0)])) rfl (by rw [hml]; rfl) (Steps.refl _) (argsL := [(.int (2 : Int32))]) (rest := []) (lenOf pd_13 rfl) rfl (by show 2 * 0 + _ ≤ _; exact Nat.le_of_eq rfl) (hb hby d8_16) (fun _ _ => ⟨rfl, e16, (by decide : 0 + 0 ≤ _), (by decide : 0 + 0 ≤ _)⟩)
     dsimp only [Pt.U, Pt.locs, Pt.cells, Pt.slots] at X21 l21 y21 z21 st21 hQ21
     subst l21 y21 z21
     obtain ⟨rfl, N21q, eh21⟩ := hQ21
     have N21 := Fr.app N12 N21q
     obtain ⟨T22, X22, e22, st22⟩ := getS2 X21 hx hZ hown (host := "") (Or.inl (hw _ (List.mem_of_getElem? (i := 89) rfl))) Via.refl eh21 (TS.ext O0.2) (g := (mkF m 23 #[rv r0, iv 0, iv 3, iv 2, iv c2] [(.int c2)])) rfl (hb hby d8_23)
     have G23 : ∀ t, Steps p.tables e below (T22.setTop (mkF m 27 #[rv r0, iv 0, iv 3, iv 2, iv c2] [(.int (128 : Int32)), (.int c2)])) t → Steps p.tables e below (s₁.setTop (entryFrame m #[(.ref r0), (.int (0 : Int32)), (.int (3 : Int32))] 5)) t := by
      intro t kt
      refine G20 _ ?_
      refine XS.icmpNo X16.here hx rfl (hb hby d8_11) rfl (tlt (by decide)).2.1 ?_
      refine XS.aloadN X16.here hx rfl (hb hby d8_14) rfl rfl ?_
      refine XS.iloadN X16.here hx rfl (hb hby d8_15) rfl ?_
      refine st21.trans ?_
      refine XS.istore X21.here hx rfl (hb hby d8_19) rfl (l' := #[rv r0, iv 0, iv 3, iv 2, iv c2]) rfl ?_
      refine XS.iload X21.here hx rfl (hb hby d8_21) rfl ?_
      show Steps p.tables e below (T21.setTop (mkF m 23 #[rv r0, iv 0, iv 3, iv 2, iv c2] [(.int c2)])) _
      refine st22 _ ?_
      refine X22.arraylength hx (by rw [e22]; exact (TA.ext O0.2).1) (State.isArrayOf_alike hZ.alike (TA.ext O0.2).2.1) (g := (mkF m 26 #[rv r0, iv 0, iv 3, iv 2, iv c2] [(.ref tt), (.int c2)])) rfl rfl (hb hby d8_26) _ ?_
      rw [len_of TS2 (by decide)]
      exact kt
     by_cases hc27_24 : c2 < (128 : Int32)
     ·skip
      obtain ⟨T25, X25, e25, st25⟩ := getS2 X22 hx hZ hown (host := "") (Or.inl (hw _ (List.mem_of_getElem? (i := 89) rfl))) Via.refl e22 (TS.ext O0.2) (g := (mkF m 30 #[rv r0, iv 0, iv 3, iv 2, iv c2] [])) rfl (hb hby d8_30)
      have hn26 : ¬ (c2 < (0 : Int32)) := by rw [Int32.lt_iff_toInt_lt]; exact Int.not_lt.mpr hb2.1
      have hin26 : ¬ (c2 < 0 ∨ ct.slots.size ≤ (c2).toNatClampNeg) := inb_of TS2 ⟨hn26, hc27_24⟩
      have hat26 := TV c2 hn26 hc27_24
      have G27 : ∀ t, Steps p.tables e below (T25.setTop (mkF m 36 #[rv r0, iv 0, iv 3, iv 2, iv c2] [(.int (fisT c2))])) t → Steps p.tables e below (s₁.setTop (entryFrame m #[(.ref r0), (.int (0 : Int32)), (.int (3 : Int32))] 5)) t := by
       intro t kt
       refine G23 _ ?_
       refine XS.icmpNo X22.here hx rfl (hb hby d8_27) rfl (tlt hc27_24).2.1 ?_
       refine st25 _ ?_
       refine XS.iload X25.here hx rfl (hb hby d8_33) rfl ?_
       refine X25.baloadBooleans hx (j := c2) (v := (.int (fisT c2))) (by rw [e25]; exact (TA.ext O0.2).1) (State.isArrayOf_alike hZ.alike (TA.ext O0.2).2.1) (TA.ext O0.2).2.2 hin26 hat26 (g := (mkF m 35 #[rv r0, iv 0, iv 3, iv 2, iv c2] [(.int c2), (.ref tt)])) rfl rfl (hb hby d8_35) _ ?_
       exact kt
      by_cases hc36_28 : (fisT c2) = (0 : Int32)
      ·skip
       obtain ⟨fs, hr, hrun, hended, hW, hsame⟩ := X25.leave (v := some (.int (0 : Int32))) (fun h => by rw [Bd.returns] at h; cases h)
       refine ⟨_, _, G27 _ ?_, hrun, hended, _, _, rfl, ?_, ⟨_, rfl⟩, hW, hsame.mono (by decide) (by decide)⟩
       ·skip
        refine XS.ifNo X25.here hx rfl (hb hby d8_36) rfl ((if0 _ _).trans (teq hc36_28).2) ?_
        refine XS.iconst X25.here hx rfl (hb hby d8_39) ?_
        exact retN X25 hx (t := .boolean) Bd.returns (by simp) (hb hby d8_40) hr
       ·show QrmTokU03 Z r0 c0 c1 c2 ta kb tt ct cst fv h0 n0 _ T25.heap _
        rw [e25]
        exact ⟨by rw [own_tok, if_neg hc36_10, own_tok, if_neg hc36_19, own_tok, if_pos hc36_28], N21, rfl⟩
      ·skip
       have G29 : ∀ t, Steps p.tables e below (T25.setTop (mkF m 11 #[rv r0, iv 0, iv 3, iv 3, iv c2] [(.int (3 : Int32)), (.int (3 : Int32))])) t → Steps p.tables e below (s₁.setTop (entryFrame m #[(.ref r0), (.int (0 : Int32)), (.int (3 : Int32))] 5)) t := by
        intro t kt
        refine G27 _ ?_
        refine XS.ifYes X25.here hx rfl (pc0 := 36) (pc' := 41) rfl (hb hby d8_36) rfl ((if0 _ _).trans (feq hc36_28).2) (by decide) (by decide) ?_
        refine XS.iinc X25.here hx rfl (hb hby d8_41) rfl (l' := #[rv r0, iv 0, iv 3, iv 3, iv c2]) rfl ?_
        refine XS.goto X25.here hx rfl (pc0 := 44) (pc' := 9) rfl (hb hby d8_44) (by decide) (by decide) ?_
        refine XS.iloadN X25.here hx rfl (hb hby d8_9) rfl ?_
        refine XS.iloadN X25.here hx rfl (hb hby d8_10) rfl ?_
        exact kt
       obtain ⟨fs, hr, hrun, hended, hW, hsame⟩ := X25.leave (v := some (.int (1 : Int32))) (fun h => by rw [Bd.returns] at h; cases h)
       refine ⟨_, _, G29 _ ?_, hrun, hended, _, _, rfl, ?_, ⟨_, rfl⟩, hW, hsame.mono (by decide) (by decide)⟩
       ·skip
        refine XS.icmpYes X25.here hx rfl (pc0 := 11) (pc' := 47) rfl (hb hby d8_11) rfl (flt (by decide)).2.1 (by decide) (by decide) ?_
        refine XS.iconst X25.here hx rfl (hb hby d8_47) ?_
        exact retN X25 hx (t := .boolean) Bd.returns (by simp) (hb hby d8_48) hr
       ·show QrmTokU03 Z r0 c0 c1 c2 ta kb tt ct cst fv h0 n0 _ T25.heap _
        rw [e25]
        exact ⟨by rw [own_tok, if_neg hc36_10, own_tok, if_neg hc36_19, own_tok, if_neg hc36_28, own_tok], N21, rfl⟩
     ·skip
      obtain ⟨fs, hr, hrun, hended, hW, hsame⟩ := X22.leave (v := some (.int (0 : Int32))) (fun h => by rw [Bd.returns] at h; cases h)
      refine ⟨_, _, G23 _ ?_, hrun, hended, _, _, rfl, ?_, ⟨_, rfl⟩, hW, hsame.mono (by decide) (by decide)⟩
      ·skip
       refine XS.icmpYes X22.here hx rfl (pc0 := 27) (pc' := 39) rfl (hb hby d8_27) rfl (flt hc27_24).2.1 (by decide) (by decide) ?_
       refine XS.iconst X22.here hx rfl (hb hby d8_39) ?_
       exact retN X22 hx (t := .boolean) Bd.returns (by simp) (hb hby d8_40) hr
      ·show QrmTokU03 Z r0 c0 c1 c2 ta kb tt ct cst fv h0 n0 _ T22.heap _
       rw [e22]
       exact ⟨by rw [own_tok, if_neg hc36_10, own_tok, if_neg hc36_19, own_tok, if_pos (own_big c2 hc27_24)], N21, rfl⟩
   ·skip
    obtain ⟨fs, hr, hrun, hended, hW, hsame⟩ := X13.leave (v := some (.int (0 : Int32))) (fun h => by rw [Bd.returns] at h; cases h)
    refine ⟨_, _, G14 _ ?_, hrun, hended, _, _, rfl, ?_, ⟨_, rfl⟩, hW, hsame.mono (by decide) (by decide)⟩
    ·skip
     refine XS.icmpYes X13.here hx rfl (pc0 := 27) (pc' := 39) rfl (hb hby d8_27) rfl (flt hc27_15).2.1 (by decide) (by decide) ?_
     refine XS.iconst X13.here hx rfl (hb hby d8_39) ?_
     exact retN X13 hx (t := .boolean) Bd.returns (by simp) (hb hby d8_40) hr
    ·show QrmTokU03 Z r0 c0 c1 c2 ta kb tt ct cst fv h0 n0 _ T13.heap _
     rw [e13]
     exact ⟨by rw [own_tok, if_neg hc36_10, own_tok, if_pos (own_big c1 hc27_15)], N12, rfl⟩
 ·skip
  obtain ⟨fs, hr, hrun, hended, hW, hsame⟩ := X4.leave (v := some (.int (0 : Int32))) (fun h => by rw [Bd.returns] at h; cases h)
  refine ⟨_, _, G5 _ ?_, hrun, hended, _, _, rfl, ?_, ⟨_, rfl⟩, hW, hsame.mono (by decide) (by decide)⟩
  ·skip
   refine XS.icmpYes X4.here hx rfl (pc0 := 27) (pc' := 39) rfl (hb hby d8_27) rfl (flt hc27_6).2.1 (by decide) (by decide) ?_
   refine XS.iconst X4.here hx rfl (hb hby d8_39) ?_
   exact retN X4 hx (t := .boolean) Bd.returns (by simp) (hb hby d8_40) hr
  ·show QrmTokU03 Z r0 c0 c1 c2 ta kb tt ct cst fv h0 n0 _ T4.heap _
   rw [e4]
   exact ⟨by rw [own_tok, if_pos (own_big c0 hc27_6)], N3, rfl⟩
def QrmTokU12 (Z : State) (r0 : Addr) (c0 c1 c2 : Int32) (ta : Addr) (kb : ClassId) (tt : Addr) (ct : Cell) (cst : Int32) (fv : Value) (h0 : Heap) (n0 : Nat) (v : Option Value) (h : Heap) (L : List Loc) : Prop := v = some (.int (own_tok [c1])) ∧ Fr n0 L ∧ h = h0
theorem ef_rmTokU12 (m : MethodId) (x0 : Addr) (x1 : Int32) (x2 : Int32) : entryFrame m #[(.ref x0), (.int x1), (.int x2)] 5 = mkF m 0 #[.val (.ref x0), .val (.int x1), .val (.int x2), .unset, .unset] [] := by first | (simp [entryFrame, mkF, argsToLocals, Value.category]; done) | rfl
set_option maxRecDepth 65536 in
set_option maxHeartbeats 40000000 in
theorem rmTokU12 (l : Launch) (Z : State) (a0 : Array Value) (hw : ∀ d ∈ tables_1, d.before a0 Z = true) (ws : List Jvm.Cond) (r0 : Addr) (c0 c1 c2 : Int32) (ta : Addr) (kb : ClassId) (tt : Addr) (ct : Cell) (cst : Int32) (fv : Value) (h0 : Heap) (n0 : Nat) (Z0 : n0 ≤ h0.size) (E0 : Exa Z h0 r0 "java/lang/String") (Fc : Fld Z h0 r0 "java/lang/String" "coder" "B" (.int (1 : Int32))) (Fv : Fld Z h0 r0 "java/lang/String" "value" "[B" (.ref ta)) (V0 : Arv Z h0 ta kb .byte (6 : Int32) [(.int (nar .byte ((c0 >>> ((0 : Int32) &&& 31)).toInt8.toInt32))), (.int (nar .byte ((c0 >>> ((8 : Int32) &&& 31)).toInt8.toInt32))), (.int (nar .byte ((c1 >>> ((0 : Int32) &&& 31)).toInt8.toInt32))), (.int (nar .byte ((c1 >>> ((8 : Int32) &&& 31)).toInt8.toInt32))), (.int (nar .byte ((c2 >>> ((0 : Int32) &&& 31)).toInt8.toInt32))), (.int (nar .byte ((c2 >>> ((8 : Int32) &&& 31)).toInt8.toInt32)))] (.int (0 : Int32))) (O0 : Old Z n0 h0) (hb0 : 0 ≤ c0.toInt ∧ c0.toInt ≤ 65535) (hb1 : 0 ≤ c1.toInt ∧ c1.toInt ≤ 65535) (hb2 : 0 ≤ c2.toInt ∧ c2.toInt ≤ 65535) (TS : Sta Z Z.heap "com/example/wary_bearer/warybearer/http/Http1Reader" "TCHAR" "[Z" (.ref tt)) (TA : Arr Z Z.heap tt ct .boolean) (TS2 : ct.slots.size = (128 : Int32).toNatClampNeg) (TV : ∀ j : Int32, ¬ (j < (0 : Int32)) → j < (128 : Int32) → ct.slots[j.toNatClampNeg]? = some (.int (fisT j))) (SS : Sts Z cst fv) :
  MetFree l (⟨"com/example/wary_bearer/warybearer/http/Http1Reader", "isToken", "(Ljava/lang/String;II)Z"⟩ : MethodName) (head1 (Jvm.Cond.code (⟨"com/example/wary_bearer/warybearer/http/Http1Reader", "isToken", "(Ljava/lang/String;II)Z"⟩ : MethodName) prog_13_method_12_code 5 (some .boolean) :: ws) ({ frames := 5, cells := 0, slots := 0, locals := 66 } : Room)) (fun a U => a = #[(.ref r0), (.int (1 : Int32)), (.int (2 : Int32))] ∧ Z.Warmed39 U.vm ∧ U.heap = h0) (fun _ _ _ _ _ => True) (fun _ U o U' => ∃ v L, o = .returned v ∧ QrmTokU12 Z r0 c0 c1 c2 ta kb tt ct cst fv h0 n0 v U'.heap L ∧ FrameEnd U o U' L ({ frames := 5, cells := 0, slots := 0, locals := 66 } : Room).cells ({ frames := 5, cells := 0, slots := 0, locals := 66 } : Room).slots) := by
 refine MetFree.of_bodySF (plainFor_of_name pnc_com_example_wary_bearer_warybearer_http_Http1Reader) hisR ?_
 intro p e s m args below meth c s₁ Bd hml0 hP hK
 obtain ⟨rfl, hZ, hh⟩ := hP
 have hx := Bd.exec
 have hby := Bd.bytes
 have hml : c.maxLocals = 5 := hml0
 have hown : s.vm.findClass "com/example/wary_bearer/warybearer/http/Http1Reader" = some m.cls := findClass_of_methodNamed Bd.named
 have hnm := (name_of_methodNamed Bd.named Bd.method).1
 have X0 : Stand p l e ({ frames := 5, cells := 0, slots := 0, locals := 66 } : Room) s m #[(.ref r0), (.int (1 : Int32)), (.int (2 : Int32))] below meth c s₁ [] 0 0 := Stand.of_body Bd
 have e0 : s₁.heap = h0 := by rw [← hh, Bd.state]; rfl
 have N0 := Fr.nil n0
 have kp0 : Keep h0 h0 [] := Keep.refl _ _
 have G0 : ∀ t, Steps p.tables e below (s₁.setTop (mkF m 0 #[rv r0, iv 1, iv 2, .unset, .unset] [])) t → Steps p.tables e below (s₁.setTop (entryFrame m #[(.ref r0), (.int (1 : Int32)), (.int (2 : Int32))] 5)) t := fun t k => castTop (ef_rmTokU12 m r0 (1 : Int32) (2 : Int32)) k
 have G1 : ∀ t, Steps p.tables e below (s₁.setTop (mkF m 2 #[rv r0, iv 1, iv 2, .unset, .unset] [(.int (2 : Int32)), (.int (1 : Int32))])) t → Steps p.tables e below (s₁.setTop (entryFrame m #[(.ref r0), (.int (1 : Int32)), (.int (2 : Int32))] 5)) t := by
  intro t kt
  refine G0 _ ?_
  refine XS.iloadN X0.here hx rfl (hb hby d8_0) rfl ?_
  refine XS.iloadN X0.here hx rfl (hb hby d8_1) rfl ?_
  exact kt
 have G2 : ∀ t, Steps p.tables e below (s₁.setTop (mkF m 11 #[rv r0, iv 1, iv 2, iv 1, .unset] [(.int (2 : Int32)), (.int (1 : Int32))])) t → Steps p.tables e below (s₁.setTop (entryFrame m #[(.ref r0), (.int (1 : Int32)), (.int (2 : Int32))] 5)) t := by
  intro t kt
  refine G1 _ ?_
  refine XS.icmpYes X0.here hx rfl (pc0 := 2) (pc' := 7) rfl (hb hby d8_2) rfl (tlt (by decide)).1 (by decide) (by decide) ?_
  refine XS.iloadN X0.here hx rfl (hb hby d8_7) rfl ?_
  refine XS.istoreN X0.here hx rfl (hb hby d8_8) rfl (l' := #[rv r0, iv 1, iv 2, iv 1, .unset]) rfl ?_
  refine XS.iloadN X0.here hx rfl (hb hby d8_9) rfl ?_
  refine XS.iloadN X0.here hx rfl (hb hby d8_10) rfl ?_
  exact kt
 obtain ⟨cq3, kq3, q3a, q3b, q3c⟩ := isOf hZ e0 E0
 obtain ⟨_, _, ⟨T3, L3, k3, n3⟩, -, X3, ⟨Lc3, hQ3, l3, y3, z3⟩, st3⟩ := X0.virtualBack hx (y := (⟨"java/lang/String", "charAt", "(I)C"⟩ : MethodName)) (z := (⟨"java/lang/String", "charAt", "(I)C"⟩ : MethodName)) hown (mvT hZ (hw _ (List.mem_of_getElem? (i := 62) rfl))) (mvT hZ (hw _ (List.mem_of_getElem? (i := 63) rfl))) (notFace_of_selects (args := #[]) (mvT hZ (hw _ (List.mem_of_getElem? (i := 65) rfl)))) (mvT hZ (hw _ (List.mem_of_getElem? (i := 65) rfl))) (mvT hZ (hw _ (List.mem_of_getElem? (i := 64) rfl))) (by decide) (backOf (W := 0) (rmChU l Z a0 hw [] r0 (1 : Int32) ta kb (6 : Int32) [(.int (nar .byte ((c0 >>> ((0 : Int32) &&& 31)).toInt8.toInt32))), (.int (nar .byte ((c0 >>> ((8 : Int32) &&& 31)).toInt8.toInt32))), (.int (nar .byte ((c1 >>> ((0 : Int32) &&& 31)).toInt8.toInt32))), (.int (nar .byte ((c1 >>> ((8 : Int32) &&& 31)).toInt8.toInt32))), (.int (nar .byte ((c2 >>> ((0 : Int32) &&& 31)).toInt8.toInt32))), (.int (nar .byte ((c2 >>> ((8 : Int32) &&& 31)).toInt8.toInt32)))] (nar .byte ((c1 >>> ((0 : Int32) &&& 31)).toInt8.toInt32)) (nar .byte ((c1 >>> ((8 : Int32) &&& 31)).toInt8.toInt32)) c1 cst fv h0 n0 Z0 E0 Fc Fv V0 O0 (by decide) (by decide) (by decide) (by decide) rfl rfl (own_utf c1 hb1) SS) hZ (hw _ (List.mem_of_getElem? (i := 66) rfl)) (hw _ (List.mem_of_getElem? (i := 8) rfl)) (by decide) (by decide)) q3a q3c (g := (mkF m 16 #[rv r0, iv 1, iv 2, iv 1, .unset] [(.int (1 : Int32)), (.ref r0)])) rfl (by rw [hml]; rfl) (Steps.refl _) (argsL := [(.int (1 : Int32))]) (rest := []) (lenOf pd_13 rfl) rfl (by show 2 * 0 + _ ≤ _; exact Nat.le_of_eq rfl) (hb hby d8_16) (fun _ _ => ⟨rfl, e0, (by decide : 0 + 0 ≤ _), (by decide : 0 + 0 ≤ _)⟩)
 dsimp only [Pt.U, Pt.locs, Pt.cells, Pt.slots] at X3 l3 y3 z3 st3 hQ3
 subst l3 y3 z3
 obtain ⟨rfl, N3q, eh3⟩ := hQ3
 have N3 := Fr.app N0 N3q
 obtain ⟨T4, X4, e4, st4⟩ := getS2 X3 hx hZ hown (host := "") (Or.inl (hw _ (List.mem_of_getElem? (i := 89) rfl))) Via.refl eh3 (TS.ext O0.2) (g := (mkF m 23 #[rv r0, iv 1, iv 2, iv 1, iv c1] [(.int c1)])) rfl (hb hby d8_23)
 have G5 : ∀ t, Steps p.tables e below (T4.setTop (mkF m 27 #[rv r0, iv 1, iv 2, iv 1, iv c1] [(.int (128 : Int32)), (.int c1)])) t → Steps p.tables e below (s₁.setTop (entryFrame m #[(.ref r0), (.int (1 : Int32)), (.int (2 : Int32))] 5)) t := by
  intro t kt
  refine G2 _ ?_
  refine XS.icmpNo X0.here hx rfl (hb hby d8_11) rfl (tlt (by decide)).2.1 ?_
  refine XS.aloadN X0.here hx rfl (hb hby d8_14) rfl rfl ?_
  refine XS.iloadN X0.here hx rfl (hb hby d8_15) rfl ?_
  refine st3.trans ?_
  refine XS.istore X3.here hx rfl (hb hby d8_19) rfl (l' := #[rv r0, iv 1, iv 2, iv 1, iv c1]) rfl ?_
  refine XS.iload X3.here hx rfl (hb hby d8_21) rfl ?_
  refine st4 _ ?_
  refine X4.arraylength hx (by rw [e4]; exact (TA.ext O0.2).1) (State.isArrayOf_alike hZ.alike (TA.ext O0.2).2.1) (g := (mkF m 26 #[rv r0, iv 1, iv 2, iv 1, iv c1] [(.ref tt), (.int c1)])) rfl rfl (hb hby d8_26) _ ?_
  rw [len_of TS2 (by decide)]
  exact kt
 by_cases hc27_6 : c1 < (128 : Int32)
 ·skip
  obtain ⟨T7, X7, e7, st7⟩ := getS2 X4 hx hZ hown (host := "") (Or.inl (hw _ (List.mem_of_getElem? (i := 89) rfl))) Via.refl e4 (TS.ext O0.2) (g := (mkF m 30 #[rv r0, iv 1, iv 2, iv 1, iv c1] [])) rfl (hb hby d8_30)
  have hn8 : ¬ (c1 < (0 : Int32)) := by rw [Int32.lt_iff_toInt_lt]; exact Int.not_lt.mpr hb1.1
  have hin8 : ¬ (c1 < 0 ∨ ct.slots.size ≤ (c1).toNatClampNeg) := inb_of TS2 ⟨hn8, hc27_6⟩
  have hat8 := TV c1 hn8 hc27_6
  have G9 : ∀ t, Steps p.tables e below (T7.setTop (mkF m 36 #[rv r0, iv 1, iv 2, iv 1, iv c1] [(.int (fisT c1))])) t → Steps p.tables e below (s₁.setTop (entryFrame m #[(.ref r0), (.int (1 : Int32)), (.int (2 : Int32))] 5)) t := by
   intro t kt
   refine G5 _ ?_
   refine XS.icmpNo X4.here hx rfl (hb hby d8_27) rfl (tlt hc27_6).2.1 ?_
   refine st7 _ ?_
   refine XS.iload X7.here hx rfl (hb hby d8_33) rfl ?_
   refine X7.baloadBooleans hx (j := c1) (v := (.int (fisT c1))) (by rw [e7]; exact (TA.ext O0.2).1) (State.isArrayOf_alike hZ.alike (TA.ext O0.2).2.1) (TA.ext O0.2).2.2 hin8 hat8 (g := (mkF m 35 #[rv r0, iv 1, iv 2, iv 1, iv c1] [(.int c1), (.ref tt)])) rfl rfl (hb hby d8_35) _ ?_
   exact kt
  by_cases hc36_10 : (fisT c1) = (0 : Int32)
  ·skip
   obtain ⟨fs, hr, hrun, hended, hW, hsame⟩ := X7.leave (v := some (.int (0 : Int32))) (fun h => by rw [Bd.returns] at h; cases h)
   refine ⟨_, _, G9 _ ?_, hrun, hended, _, _, rfl, ?_, ⟨_, rfl⟩, hW, hsame.mono (by decide) (by decide)⟩
   ·skip
    refine XS.ifNo X7.here hx rfl (hb hby d8_36) rfl ((if0 _ _).trans (teq hc36_10).2) ?_
    refine XS.iconst X7.here hx rfl (hb hby d8_39) ?_
    exact retN X7 hx (t := .boolean) Bd.returns (by simp) (hb hby d8_40) hr
   ·show QrmTokU12 Z r0 c0 c1 c2 ta kb tt ct cst fv h0 n0 _ T7.heap _
    rw [e7]
    exact ⟨by rw [own_tok, if_pos hc36_10], N3, rfl⟩
  ·skip
   have G11 : ∀ t, Steps p.tables e below (T7.setTop (mkF m 11 #[rv r0, iv 1, iv 2, iv 2, iv c1] [(.int (2 : Int32)), (.int (2 : Int32))])) t → Steps p.tables e below (s₁.setTop (entryFrame m #[(.ref r0), (.int (1 : Int32)), (.int (2 : Int32))] 5)) t := by
    intro t kt
    refine G9 _ ?_
    refine XS.ifYes X7.here hx rfl (pc0 := 36) (pc' := 41) rfl (hb hby d8_36) rfl ((if0 _ _).trans (feq hc36_10).2) (by decide) (by decide) ?_
    refine XS.iinc X7.here hx rfl (hb hby d8_41) rfl (l' := #[rv r0, iv 1, iv 2, iv 2, iv c1]) rfl ?_
    refine XS.goto X7.here hx rfl (pc0 := 44) (pc' := 9) rfl (hb hby d8_44) (by decide) (by decide) ?_
    refine XS.iloadN X7.here hx rfl (hb hby d8_9) rfl ?_
    show Steps p.tables e below (T7.setTop (mkF m 10 #[rv r0, iv 1, iv 2, iv 2, iv c1] [(.int (2 : Int32))])) _
    refine XS.iloadN X7.here hx rfl (hb hby d8_10) rfl ?_
    exact kt
   obtain ⟨fs, hr, hrun, hended, hW, hsame⟩ := X7.leave (v := some (.int (1 : Int32))) (fun h => by rw [Bd.returns] at h; cases h)
   refine ⟨_, _, G11 _ ?_, hrun, hended, _, _, rfl, ?_, ⟨_, rfl⟩, hW, hsame.mono (by decide) (by decide)⟩
   ·skip
    refine XS.icmpYes X7.here hx rfl (pc0 := 11) (pc' := 47) rfl (hb hby d8_11) rfl (flt (by decide)).2.1 (by decide) (by decide) ?_
    refine XS.iconst X7.here hx rfl (hb hby d8_47) ?_
    exact retN X7 hx (t := .boolean) Bd.returns (by simp) (hb hby d8_48) hr
   ·show QrmTokU12 Z r0 c0 c1 c2 ta kb tt ct cst fv h0 n0 _ T7.heap _
    rw [e7]
    exact ⟨by rw [own_tok, if_neg hc36_10, own_tok], N3, rfl⟩
 ·skip
  obtain ⟨fs, hr, hrun, hended, hW, hsame⟩ := X4.leave (v := some (.int (0 : Int32))) (fun h => by rw [Bd.returns] at h; cases h)
  refine ⟨_, _, G5 _ ?_, hrun, hended, _, _, rfl, ?_, ⟨_, rfl⟩, hW, hsame.mono (by decide) (by decide)⟩
  ·skip
   refine XS.icmpYes X4.here hx rfl (pc0 := 27) (pc' := 39) rfl (hb hby d8_27) rfl (flt hc27_6).2.1 (by decide) (by decide) ?_
   refine XS.iconst X4.here hx rfl (hb hby d8_39) ?_
   exact retN X4 hx (t := .boolean) Bd.returns (by simp) (hb hby d8_40) hr
  ·show QrmTokU12 Z r0 c0 c1 c2 ta kb tt ct cst fv h0 n0 _ T4.heap _
   rw [e4]
   exact ⟨by rw [own_tok, if_pos (own_big c1 hc27_6)], N3, rfl⟩
def QrmTokU13 (Z : State) (r0 : Addr) (c0 c1 c2 : Int32) (ta : Addr) (kb : ClassId) (tt : Addr) (ct : Cell) (cst : Int32) (fv : Value) (h0 : Heap) (n0 : Nat) (v : Option Value) (h : Heap) (L : List Loc) : Prop := v = some (.int (own_tok [c1, c2])) ∧ Fr n0 L ∧ h = h0
theorem ef_rmTokU13 (m : MethodId) (x0 : Addr) (x1 : Int32) (x2 : Int32) : entryFrame m #[(.ref x0), (.int x1), (.int x2)] 5 = mkF m 0 #[.val (.ref x0), .val (.int x1), .val (.int x2), .unset, .unset] [] := by first | (simp [entryFrame, mkF, argsToLocals, Value.category]; done) | rfl
set_option maxRecDepth 65536 in
set_option maxHeartbeats 40000000 in
theorem rmTokU13 (l : Launch) (Z : State) (a0 : Array Value) (hw : ∀ d ∈ tables_1, d.before a0 Z = true) (ws : List Jvm.Cond) (r0 : Addr) (c0 c1 c2 : Int32) (ta : Addr) (kb : ClassId) (tt : Addr) (ct : Cell) (cst : Int32) (fv : Value) (h0 : Heap) (n0 : Nat) (Z0 : n0 ≤ h0.size) (E0 : Exa Z h0 r0 "java/lang/String") (Fc : Fld Z h0 r0 "java/lang/String" "coder" "B" (.int (1 : Int32))) (Fv : Fld Z h0 r0 "java/lang/String" "value" "[B" (.ref ta)) (V0 : Arv Z h0 ta kb .byte (6 : Int32) [(.int (nar .byte ((c0 >>> ((0 : Int32) &&& 31)).toInt8.toInt32))), (.int (nar .byte ((c0 >>> ((8 : Int32) &&& 31)).toInt8.toInt32))), (.int (nar .byte ((c1 >>> ((0 : Int32) &&& 31)).toInt8.toInt32))), (.int (nar .byte ((c1 >>> ((8 : Int32) &&& 31)).toInt8.toInt32))), (.int (nar .byte ((c2 >>> ((0 : Int32) &&& 31)).toInt8.toInt32))), (.int (nar .byte ((c2 >>> ((8 : Int32) &&& 31)).toInt8.toInt32)))] (.int (0 : Int32))) (O0 : Old Z n0 h0) (hb0 : 0 ≤ c0.toInt ∧ c0.toInt ≤ 65535) (hb1 : 0 ≤ c1.toInt ∧ c1.toInt ≤ 65535) (hb2 : 0 ≤ c2.toInt ∧ c2.toInt ≤ 65535) (TS : Sta Z Z.heap "com/example/wary_bearer/warybearer/http/Http1Reader" "TCHAR" "[Z" (.ref tt)) (TA : Arr Z Z.heap tt ct .boolean) (TS2 : ct.slots.size = (128 : Int32).toNatClampNeg) (TV : ∀ j : Int32, ¬ (j < (0 : Int32)) → j < (128 : Int32) → ct.slots[j.toNatClampNeg]? = some (.int (fisT j))) (SS : Sts Z cst fv) :
  MetFree l (⟨"com/example/wary_bearer/warybearer/http/Http1Reader", "isToken", "(Ljava/lang/String;II)Z"⟩ : MethodName) (head1 (Jvm.Cond.code (⟨"com/example/wary_bearer/warybearer/http/Http1Reader", "isToken", "(Ljava/lang/String;II)Z"⟩ : MethodName) prog_13_method_12_code 5 (some .boolean) :: ws) ({ frames := 5, cells := 0, slots := 0, locals := 66 } : Room)) (fun a U => a = #[(.ref r0), (.int (1 : Int32)), (.int (3 : Int32))] ∧ Z.Warmed39 U.vm ∧ U.heap = h0) (fun _ _ _ _ _ => True) (fun _ U o U' => ∃ v L, o = .returned v ∧ QrmTokU13 Z r0 c0 c1 c2 ta kb tt ct cst fv h0 n0 v U'.heap L ∧ FrameEnd U o U' L ({ frames := 5, cells := 0, slots := 0, locals := 66 } : Room).cells ({ frames := 5, cells := 0, slots := 0, locals := 66 } : Room).slots) := by
 refine MetFree.of_bodySF (plainFor_of_name pnc_com_example_wary_bearer_warybearer_http_Http1Reader) hisR ?_
 intro p e s m args below meth c s₁ Bd hml0 hP hK
 obtain ⟨rfl, hZ, hh⟩ := hP
 have hx := Bd.exec
 have hby := Bd.bytes
 have hml : c.maxLocals = 5 := hml0
 have hown : s.vm.findClass "com/example/wary_bearer/warybearer/http/Http1Reader" = some m.cls := findClass_of_methodNamed Bd.named
 have hnm := (name_of_methodNamed Bd.named Bd.method).1
 have X0 : Stand p l e ({ frames := 5, cells := 0, slots := 0, locals := 66 } : Room) s m #[(.ref r0), (.int (1 : Int32)), (.int (3 : Int32))] below meth c s₁ [] 0 0 := Stand.of_body Bd
 have e0 : s₁.heap = h0 := by rw [← hh, Bd.state]; rfl
 have N0 := Fr.nil n0
 have kp0 : Keep h0 h0 [] := Keep.refl _ _
 have G0 : ∀ t, Steps p.tables e below (s₁.setTop (mkF m 0 #[rv r0, iv 1, iv 3, .unset, .unset] [])) t → Steps p.tables e below (s₁.setTop (entryFrame m #[(.ref r0), (.int (1 : Int32)), (.int (3 : Int32))] 5)) t := fun t k => castTop (ef_rmTokU13 m r0 (1 : Int32) (3 : Int32)) k
 have G1 : ∀ t, Steps p.tables e below (s₁.setTop (mkF m 2 #[rv r0, iv 1, iv 3, .unset, .unset] [(.int (3 : Int32)), (.int (1 : Int32))])) t → Steps p.tables e below (s₁.setTop (entryFrame m #[(.ref r0), (.int (1 : Int32)), (.int (3 : Int32))] 5)) t := by
  intro t kt
  refine G0 _ ?_
  refine XS.iloadN X0.here hx rfl (hb hby d8_0) rfl ?_
  refine XS.iloadN X0.here hx rfl (hb hby d8_1) rfl ?_
  exact kt
 have G2 : ∀ t, Steps p.tables e below (s₁.setTop (mkF m 11 #[rv r0, iv 1, iv 3, iv 1, .unset] [(.int (3 : Int32)), (.int (1 : Int32))])) t → Steps p.tables e below (s₁.setTop (entryFrame m #[(.ref r0), (.int (1 : Int32)), (.int (3 : Int32))] 5)) t := by
  intro t kt
  refine G1 _ ?_
  refine XS.icmpYes X0.here hx rfl (pc0 := 2) (pc' := 7) rfl (hb hby d8_2) rfl (tlt (by decide)).1 (by decide) (by decide) ?_
  refine XS.iloadN X0.here hx rfl (hb hby d8_7) rfl ?_
  refine XS.istoreN X0.here hx rfl (hb hby d8_8) rfl (l' := #[rv r0, iv 1, iv 3, iv 1, .unset]) rfl ?_
  refine XS.iloadN X0.here hx rfl (hb hby d8_9) rfl ?_
  refine XS.iloadN X0.here hx rfl (hb hby d8_10) rfl ?_
  exact kt
 obtain ⟨cq3, kq3, q3a, q3b, q3c⟩ := isOf hZ e0 E0
 obtain ⟨_, _, ⟨T3, L3, k3, n3⟩, -, X3, ⟨Lc3, hQ3, l3, y3, z3⟩, st3⟩ := X0.virtualBack hx (y := (⟨"java/lang/String", "charAt", "(I)C"⟩ : MethodName)) (z := (⟨"java/lang/String", "charAt", "(I)C"⟩ : MethodName)) hown (mvT hZ (hw _ (List.mem_of_getElem? (i := 62) rfl))) (mvT hZ (hw _ (List.mem_of_getElem? (i := 63) rfl))) (notFace_of_selects (args := #[]) (mvT hZ (hw _ (List.mem_of_getElem? (i := 65) rfl)))) (mvT hZ (hw _ (List.mem_of_getElem? (i := 65) rfl))) (mvT hZ (hw _ (List.mem_of_getElem? (i := 64) rfl))) (by decide) (backOf (W := 0) (rmChU l Z a0 hw [] r0 (1 : Int32) ta kb (6 : Int32) [(.int (nar .byte ((c0 >>> ((0 : Int32) &&& 31)).toInt8.toInt32))), (.int (nar .byte ((c0 >>> ((8 : Int32) &&& 31)).toInt8.toInt32))), (.int (nar .byte ((c1 >>> ((0 : Int32) &&& 31)).toInt8.toInt32))), (.int (nar .byte ((c1 >>> ((8 : Int32) &&& 31)).toInt8.toInt32))), (.int (nar .byte ((c2 >>> ((0 : Int32) &&& 31)).toInt8.toInt32))), (.int (nar .byte ((c2 >>> ((8 : Int32) &&& 31)).toInt8.toInt32)))] (nar .byte ((c1 >>> ((0 : Int32) &&& 31)).toInt8.toInt32)) (nar .byte ((c1 >>> ((8 : Int32) &&& 31)).toInt8.toInt32)) c1 cst fv h0 n0 Z0 E0 Fc Fv V0 O0 (by decide) (by decide) (by decide) (by decide) rfl rfl (own_utf c1 hb1) SS) hZ (hw _ (List.mem_of_getElem? (i := 66) rfl)) (hw _ (List.mem_of_getElem? (i := 8) rfl)) (by decide) (by decide)) q3a q3c (g := (mkF m 16 #[rv r0, iv 1, iv 3, iv 1, .unset] [(.int (1 : Int32)), (.ref r0)])) rfl (by rw [hml]; rfl) (Steps.refl _) (argsL := [(.int (1 : Int32))]) (rest := []) (lenOf pd_13 rfl) rfl (by show 2 * 0 + _ ≤ _; exact Nat.le_of_eq rfl) (hb hby d8_16) (fun _ _ => ⟨rfl, e0, (by decide : 0 + 0 ≤ _), (by decide : 0 + 0 ≤ _)⟩)
 dsimp only [Pt.U, Pt.locs, Pt.cells, Pt.slots] at X3 l3 y3 z3 st3 hQ3
 subst l3 y3 z3
 obtain ⟨rfl, N3q, eh3⟩ := hQ3
 have N3 := Fr.app N0 N3q
 obtain ⟨T4, X4, e4, st4⟩ := getS2 X3 hx hZ hown (host := "") (Or.inl (hw _ (List.mem_of_getElem? (i := 89) rfl))) Via.refl eh3 (TS.ext O0.2) (g := (mkF m 23 #[rv r0, iv 1, iv 3, iv 1, iv c1] [(.int c1)])) rfl (hb hby d8_23)
 have G5 : ∀ t, Steps p.tables e below (T4.setTop (mkF m 27 #[rv r0, iv 1, iv 3, iv 1, iv c1] [(.int (128 : Int32)), (.int c1)])) t → Steps p.tables e below (s₁.setTop (entryFrame m #[(.ref r0), (.int (1 : Int32)), (.int (3 : Int32))] 5)) t := by
  intro t kt
  refine G2 _ ?_
  refine XS.icmpNo X0.here hx rfl (hb hby d8_11) rfl (tlt (by decide)).2.1 ?_
  refine XS.aloadN X0.here hx rfl (hb hby d8_14) rfl rfl ?_
  refine XS.iloadN X0.here hx rfl (hb hby d8_15) rfl ?_
  refine st3.trans ?_
  refine XS.istore X3.here hx rfl (hb hby d8_19) rfl (l' := #[rv r0, iv 1, iv 3, iv 1, iv c1]) rfl ?_
  refine XS.iload X3.here hx rfl (hb hby d8_21) rfl ?_
  refine st4 _ ?_
  refine X4.arraylength hx (by rw [e4]; exact (TA.ext O0.2).1) (State.isArrayOf_alike hZ.alike (TA.ext O0.2).2.1) (g := (mkF m 26 #[rv r0, iv 1, iv 3, iv 1, iv c1] [(.ref tt), (.int c1)])) rfl rfl (hb hby d8_26) _ ?_
  rw [len_of TS2 (by decide)]
  exact kt
 by_cases hc27_6 : c1 < (128 : Int32)
 ·skip
  obtain ⟨T7, X7, e7, st7⟩ := getS2 X4 hx hZ hown (host := "") (Or.inl (hw _ (List.mem_of_getElem? (i := 89) rfl))) Via.refl e4 (TS.ext O0.2) (g := (mkF m 30 #[rv r0, iv 1, iv 3, iv 1, iv c1] [])) rfl (hb hby d8_30)
  have hn8 : ¬ (c1 < (0 : Int32)) := by rw [Int32.lt_iff_toInt_lt]; exact Int.not_lt.mpr hb1.1
  have hin8 : ¬ (c1 < 0 ∨ ct.slots.size ≤ (c1).toNatClampNeg) := inb_of TS2 ⟨hn8, hc27_6⟩
  have hat8 := TV c1 hn8 hc27_6
  have G9 : ∀ t, Steps p.tables e below (T7.setTop (mkF m 36 #[rv r0, iv 1, iv 3, iv 1, iv c1] [(.int (fisT c1))])) t → Steps p.tables e below (s₁.setTop (entryFrame m #[(.ref r0), (.int (1 : Int32)), (.int (3 : Int32))] 5)) t := by
   intro t kt
   refine G5 _ ?_
   refine XS.icmpNo X4.here hx rfl (hb hby d8_27) rfl (tlt hc27_6).2.1 ?_
   refine st7 _ ?_
   refine XS.iload X7.here hx rfl (hb hby d8_33) rfl ?_
   refine X7.baloadBooleans hx (j := c1) (v := (.int (fisT c1))) (by rw [e7]; exact (TA.ext O0.2).1) (State.isArrayOf_alike hZ.alike (TA.ext O0.2).2.1) (TA.ext O0.2).2.2 hin8 hat8 (g := (mkF m 35 #[rv r0, iv 1, iv 3, iv 1, iv c1] [(.int c1), (.ref tt)])) rfl rfl (hb hby d8_35) _ ?_
   exact kt
  by_cases hc36_10 : (fisT c1) = (0 : Int32)
  ·skip
   obtain ⟨fs, hr, hrun, hended, hW, hsame⟩ := X7.leave (v := some (.int (0 : Int32))) (fun h => by rw [Bd.returns] at h; cases h)
   refine ⟨_, _, G9 _ ?_, hrun, hended, _, _, rfl, ?_, ⟨_, rfl⟩, hW, hsame.mono (by decide) (by decide)⟩
   ·skip
    refine XS.ifNo X7.here hx rfl (hb hby d8_36) rfl ((if0 _ _).trans (teq hc36_10).2) ?_
    refine XS.iconst X7.here hx rfl (hb hby d8_39) ?_
    exact retN X7 hx (t := .boolean) Bd.returns (by simp) (hb hby d8_40) hr
   ·show QrmTokU13 Z r0 c0 c1 c2 ta kb tt ct cst fv h0 n0 _ T7.heap _
    rw [e7]
    exact ⟨by rw [own_tok, if_pos hc36_10], N3, rfl⟩
  ·skip
   have G11 : ∀ t, Steps p.tables e below (T7.setTop (mkF m 11 #[rv r0, iv 1, iv 3, iv 2, iv c1] [(.int (3 : Int32)), (.int (2 : Int32))])) t → Steps p.tables e below (s₁.setTop (entryFrame m #[(.ref r0), (.int (1 : Int32)), (.int (3 : Int32))] 5)) t := by
    intro t kt
    refine G9 _ ?_
    refine XS.ifYes X7.here hx rfl (pc0 := 36) (pc' := 41) rfl (hb hby d8_36) rfl ((if0 _ _).trans (feq hc36_10).2) (by decide) (by decide) ?_
    refine XS.iinc X7.here hx rfl (hb hby d8_41) rfl (l' := #[rv r0, iv 1, iv 3, iv 2, iv c1]) rfl ?_
    refine XS.goto X7.here hx rfl (pc0 := 44) (pc' := 9) rfl (hb hby d8_44) (by decide) (by decide) ?_
    refine XS.iloadN X7.here hx rfl (hb hby d8_9) rfl ?_
    show Steps p.tables e below (T7.setTop (mkF m 10 #[rv r0, iv 1, iv 3, iv 2, iv c1] [(.int (2 : Int32))])) _
    refine XS.iloadN X7.here hx rfl (hb hby d8_10) rfl ?_
    exact kt
   obtain ⟨cq12, kq12, q12a, q12b, q12c⟩ := isOf hZ e7 E0
   obtain ⟨_, _, ⟨T12, L12, k12, n12⟩, -, X12, ⟨Lc12, hQ12, l12, y12, z12⟩, st12⟩ := X7.virtualBack hx (y := (⟨"java/lang/String", "charAt", "(I)C"⟩ : MethodName)) (z := (⟨"java/lang/String", "charAt", "(I)C"⟩ : MethodName)) hown (mvT hZ (hw _ (List.mem_of_getElem? (i := 62) rfl))) (mvT hZ (hw _ (List.mem_of_getElem? (i := 63) rfl))) (notFace_of_selects (args := #[]) (mvT hZ (hw _ (List.mem_of_getElem? (i := 65) rfl)))) (mvT hZ (hw _ (List.mem_of_getElem? (i := 65) rfl))) (mvT hZ (hw _ (List.mem_of_getElem? (i := 64) rfl))) (by decide) (backOf (W := 0) (rmChU l Z a0 hw [] r0 (2 : Int32) ta kb (6 : Int32) [(.int (nar .byte ((c0 >>> ((0 : Int32) &&& 31)).toInt8.toInt32))), (.int (nar .byte ((c0 >>> ((8 : Int32) &&& 31)).toInt8.toInt32))), (.int (nar .byte ((c1 >>> ((0 : Int32) &&& 31)).toInt8.toInt32))), (.int (nar .byte ((c1 >>> ((8 : Int32) &&& 31)).toInt8.toInt32))), (.int (nar .byte ((c2 >>> ((0 : Int32) &&& 31)).toInt8.toInt32))), (.int (nar .byte ((c2 >>> ((8 : Int32) &&& 31)).toInt8.toInt32)))] (nar .byte ((c2 >>> ((0 : Int32) &&& 31)).toInt8.toInt32)) (nar .byte ((c2 >>> ((8 : Int32) &&& 31)).toInt8.toInt32)) c2 cst fv h0 n0 Z0 E0 Fc Fv V0 O0 (by decide) (by decide) (by decide) (by decide) rfl rfl (own_utf c2 hb2) SS) hZ (hw _ (List.mem_of_getElem? (i := 66) rfl)) (hw _ (List.mem_of_getElem? (i := 8) rfl)) (by decide) (by decide)) q12a q12c (g := (mkF m 16 #[rv r0, iv 1, iv 3, iv 2, iv c1] [(.int (2 : Int32)), (.ref r0)])) rfl (by rw [hml]; rfl) (Steps.refl _) (argsL := [(.int (2 : Int32))]) (rest := []) (lenOf pd_13 rfl) rfl (by show 2 * 0 + _ ≤ _; exact Nat.le_of_eq rfl) (hb hby d8_16) (fun _ _ => ⟨rfl, e7, (by decide : 0 + 0 ≤ _), (by decide : 0 + 0 ≤ _)⟩)
   dsimp only [Pt.U, Pt.locs, Pt.cells, Pt.slots] at X12 l12 y12 z12 st12 hQ12
   subst l12 y12 z12
   obtain ⟨rfl, N12q, eh12⟩ := hQ12
   have N12 := Fr.app N3 N12q
   obtain ⟨T13, X13, e13, st13⟩ := getS2 X12 hx hZ hown (host := "") (Or.inl (hw _ (List.mem_of_getElem? (i := 89) rfl))) Via.refl eh12 (TS.ext O0.2) (g := (mkF m 23 #[rv r0, iv 1, iv 3, iv 2, iv c2] [(.int c2)])) rfl (hb hby d8_23)
   have G14 : ∀ t, Steps p.tables e below (T13.setTop (mkF m 27 #[rv r0, iv 1, iv 3, iv 2, iv c2] [(.int (128 : Int32)), (.int c2)])) t → Steps p.tables e below (s₁.setTop (entryFrame m #[(.ref r0), (.int (1 : Int32)), (.int (3 : Int32))] 5)) t := by
    intro t kt
    refine G11 _ ?_
    refine XS.icmpNo X7.here hx rfl (hb hby d8_11) rfl (tlt (by decide)).2.1 ?_
    refine XS.aloadN X7.here hx rfl (hb hby d8_14) rfl rfl ?_
    refine XS.iloadN X7.here hx rfl (hb hby d8_15) rfl ?_
    refine st12.trans ?_
    refine XS.istore X12.here hx rfl (hb hby d8_19) rfl (l' := #[rv r0, iv 1, iv 3, iv 2, iv c2]) rfl ?_
    refine XS.iload X12.here hx rfl (hb hby d8_21) rfl ?_
    refine st13 _ ?_
    refine X13.arraylength hx (by rw [e13]; exact (TA.ext O0.2).1) (State.isArrayOf_alike hZ.alike (TA.ext O0.2).2.1) (g := (mkF m 26 #[rv r0, iv 1, iv 3, iv 2, iv c2] [(.ref tt), (.int c2)])) rfl rfl (hb hby d8_26) _ ?_
    rw [len_of TS2 (by decide)]
    exact kt
   by_cases hc27_15 : c2 < (128 : Int32)
   ·skip
    obtain ⟨T16, X16, e16, st16⟩ := getS2 X13 hx hZ hown (host := "") (Or.inl (hw _ (List.mem_of_getElem? (i := 89) rfl))) Via.refl e13 (TS.ext O0.2) (g := (mkF m 30 #[rv r0, iv 1, iv 3, iv 2, iv c2] [])) rfl (hb hby d8_30)
    have hn17 : ¬ (c2 < (0 : Int32)) := by rw [Int32.lt_iff_toInt_lt]; exact Int.not_lt.mpr hb2.1
    have hin17 : ¬ (c2 < 0 ∨ ct.slots.size ≤ (c2).toNatClampNeg) := inb_of TS2 ⟨hn17, hc27_15⟩
    have hat17 := TV c2 hn17 hc27_15
    have G18 : ∀ t, Steps p.tables e below (T16.setTop (mkF m 36 #[rv r0, iv 1, iv 3, iv 2, iv c2] [(.int (fisT c2))])) t → Steps p.tables e below (s₁.setTop (entryFrame m #[(.ref r0), (.int (1 : Int32)), (.int (3 : Int32))] 5)) t := by
     intro t kt
     refine G14 _ ?_
     refine XS.icmpNo X13.here hx rfl (hb hby d8_27) rfl (tlt hc27_15).2.1 ?_
     refine st16 _ ?_
     refine XS.iload X16.here hx rfl (hb hby d8_33) rfl ?_
     refine X16.baloadBooleans hx (j := c2) (v := (.int (fisT c2))) (by rw [e16]; exact (TA.ext O0.2).1) (State.isArrayOf_alike hZ.alike (TA.ext O0.2).2.1) (TA.ext O0.2).2.2 hin17 hat17 (g := (mkF m 35 #[rv r0, iv 1, iv 3, iv 2, iv c2] [(.int c2), (.ref tt)])) rfl rfl (hb hby d8_35) _ ?_
     exact kt
    by_cases hc36_19 : (fisT c2) = (0 : Int32)
    ·skip
     obtain ⟨fs, hr, hrun, hended, hW, hsame⟩ := X16.leave (v := some (.int (0 : Int32))) (fun h => by rw [Bd.returns] at h; cases h)
     refine ⟨_, _, G18 _ ?_, hrun, hended, _, _, rfl, ?_, ⟨_, rfl⟩, hW, hsame.mono (by decide) (by decide)⟩
     ·skip
      refine XS.ifNo X16.here hx rfl (hb hby d8_36) rfl ((if0 _ _).trans (teq hc36_19).2) ?_
      refine XS.iconst X16.here hx rfl (hb hby d8_39) ?_
      exact retN X16 hx (t := .boolean) Bd.returns (by simp) (hb hby d8_40) hr
     ·show QrmTokU13 Z r0 c0 c1 c2 ta kb tt ct cst fv h0 n0 _ T16.heap _
      rw [e16]
      exact ⟨by rw [own_tok, if_neg hc36_10, own_tok, if_pos hc36_19], N12, rfl⟩
    ·skip
     have G20 : ∀ t, Steps p.tables e below (T16.setTop (mkF m 11 #[rv r0, iv 1, iv 3, iv 3, iv c2] [(.int (3 : Int32)), (.int (3 : Int32))])) t → Steps p.tables e below (s₁.setTop (entryFrame m #[(.ref r0), (.int (1 : Int32)), (.int (3 : Int32))] 5)) t := by
      intro t kt
      refine G18 _ ?_
      refine XS.ifYes X16.here hx rfl (pc0 := 36) (pc' := 41) rfl (hb hby d8_36) rfl ((if0 _ _).trans (feq hc36_19).2) (by decide) (by decide) ?_
      refine XS.iinc X16.here hx rfl (hb hby d8_41) rfl (l' := #[rv r0, iv 1, iv 3, iv 3, iv c2]) rfl ?_
      refine XS.goto X16.here hx rfl (pc0 := 44) (pc' := 9) rfl (hb hby d8_44) (by decide) (by decide) ?_
      refine XS.iloadN X16.here hx rfl (hb hby d8_9) rfl ?_
      refine XS.iloadN X16.here hx rfl (hb hby d8_10) rfl ?_
      exact kt
     obtain ⟨fs, hr, hrun, hended, hW, hsame⟩ := X16.leave (v := some (.int (1 : Int32))) (fun h => by rw [Bd.returns] at h; cases h)
     refine ⟨_, _, G20 _ ?_, hrun, hended, _, _, rfl, ?_, ⟨_, rfl⟩, hW, hsame.mono (by decide) (by decide)⟩
     ·skip
      refine XS.icmpYes X16.here hx rfl (pc0 := 11) (pc' := 47) rfl (hb hby d8_11) rfl (flt (by decide)).2.1 (by decide) (by decide) ?_
      refine XS.iconst X16.here hx rfl (hb hby d8_47) ?_
      exact retN X16 hx (t := .boolean) Bd.returns (by simp) (hb hby d8_48) hr
     ·show QrmTokU13 Z r0 c0 c1 c2 ta kb tt ct cst fv h0 n0 _ T16.heap _
      rw [e16]
      exact ⟨by rw [own_tok, if_neg hc36_10, own_tok, if_neg hc36_19, own_tok], N12, rfl⟩
   ·skip
    obtain ⟨fs, hr, hrun, hended, hW, hsame⟩ := X13.leave (v := some (.int (0 : Int32))) (fun h => by rw [Bd.returns] at h; cases h)
    refine ⟨_, _, G14 _ ?_, hrun, hended, _, _, rfl, ?_, ⟨_, rfl⟩, hW, hsame.mono (by decide) (by decide)⟩
    ·skip
     refine XS.icmpYes X13.here hx rfl (pc0 := 27) (pc' := 39) rfl (hb hby d8_27) rfl (flt hc27_15).2.1 (by decide) (by decide) ?_
     refine XS.iconst X13.here hx rfl (hb hby d8_39) ?_
     exact retN X13 hx (t := .boolean) Bd.returns (by simp) (hb hby d8_40) hr
    ·show QrmTokU13 Z r0 c0 c1 c2 ta kb tt ct cst fv h0 n0 _ T13.heap _
     rw [e13]
     exact ⟨by rw [own_tok, if_neg hc36_10, own_tok, if_pos (own_big c2 hc27_15)], N12, rfl⟩
 ·skip
  obtain ⟨fs, hr, hrun, hended, hW, hsame⟩ := X4.leave (v := some (.int (0 : Int32))) (fun h => by rw [Bd.returns] at h; cases h)
  refine ⟨_, _, G5 _ ?_, hrun, hended, _, _, rfl, ?_, ⟨_, rfl⟩, hW, hsame.mono (by decide) (by decide)⟩
  ·skip
   refine XS.icmpYes X4.here hx rfl (pc0 := 27) (pc' := 39) rfl (hb hby d8_27) rfl (flt hc27_6).2.1 (by decide) (by decide) ?_
   refine XS.iconst X4.here hx rfl (hb hby d8_39) ?_
   exact retN X4 hx (t := .boolean) Bd.returns (by simp) (hb hby d8_40) hr
  ·show QrmTokU13 Z r0 c0 c1 c2 ta kb tt ct cst fv h0 n0 _ T4.heap _
   rw [e4]
   exact ⟨by rw [own_tok, if_pos (own_big c1 hc27_6)], N3, rfl⟩
def QrmTokU23 (Z : State) (r0 : Addr) (c0 c1 c2 : Int32) (ta : Addr) (kb : ClassId) (tt : Addr) (ct : Cell) (cst : Int32) (fv : Value) (h0 : Heap) (n0 : Nat) (v : Option Value) (h : Heap) (L : List Loc) : Prop := v = some (.int (own_tok [c2])) ∧ Fr n0 L ∧ h = h0
theorem ef_rmTokU23 (m : MethodId) (x0 : Addr) (x1 : Int32) (x2 : Int32) : entryFrame m #[(.ref x0), (.int x1), (.int x2)] 5 = mkF m 0 #[.val (.ref x0), .val (.int x1), .val (.int x2), .unset, .unset] [] := by first | (simp [entryFrame, mkF, argsToLocals, Value.category]; done) | rfl
set_option maxRecDepth 65536 in
set_option maxHeartbeats 40000000 in
theorem rmTokU23 (l : Launch) (Z : State) (a0 : Array Value) (hw : ∀ d ∈ tables_1, d.before a0 Z = true) (ws : List Jvm.Cond) (r0 : Addr) (c0 c1 c2 : Int32) (ta : Addr) (kb : ClassId) (tt : Addr) (ct : Cell) (cst : Int32) (fv : Value) (h0 : Heap) (n0 : Nat) (Z0 : n0 ≤ h0.size) (E0 : Exa Z h0 r0 "java/lang/String") (Fc : Fld Z h0 r0 "java/lang/String" "coder" "B" (.int (1 : Int32))) (Fv : Fld Z h0 r0 "java/lang/String" "value" "[B" (.ref ta)) (V0 : Arv Z h0 ta kb .byte (6 : Int32) [(.int (nar .byte ((c0 >>> ((0 : Int32) &&& 31)).toInt8.toInt32))), (.int (nar .byte ((c0 >>> ((8 : Int32) &&& 31)).toInt8.toInt32))), (.int (nar .byte ((c1 >>> ((0 : Int32) &&& 31)).toInt8.toInt32))), (.int (nar .byte ((c1 >>> ((8 : Int32) &&& 31)).toInt8.toInt32))), (.int (nar .byte ((c2 >>> ((0 : Int32) &&& 31)).toInt8.toInt32))), (.int (nar .byte ((c2 >>> ((8 : Int32) &&& 31)).toInt8.toInt32)))] (.int (0 : Int32))) (O0 : Old Z n0 h0) (hb0 : 0 ≤ c0.toInt ∧ c0.toInt ≤ 65535) (hb1 : 0 ≤ c1.toInt ∧ c1.toInt ≤ 65535) (hb2 : 0 ≤ c2.toInt ∧ c2.toInt ≤ 65535) (TS : Sta Z Z.heap "com/example/wary_bearer/warybearer/http/Http1Reader" "TCHAR" "[Z" (.ref tt)) (TA : Arr Z Z.heap tt ct .boolean) (TS2 : ct.slots.size = (128 : Int32).toNatClampNeg) (TV : ∀ j : Int32, ¬ (j < (0 : Int32)) → j < (128 : Int32) → ct.slots[j.toNatClampNeg]? = some (.int (fisT j))) (SS : Sts Z cst fv) :
  MetFree l (⟨"com/example/wary_bearer/warybearer/http/Http1Reader", "isToken", "(Ljava/lang/String;II)Z"⟩ : MethodName) (head1 (Jvm.Cond.code (⟨"com/example/wary_bearer/warybearer/http/Http1Reader", "isToken", "(Ljava/lang/String;II)Z"⟩ : MethodName) prog_13_method_12_code 5 (some .boolean) :: ws) ({ frames := 5, cells := 0, slots := 0, locals := 66 } : Room)) (fun a U => a = #[(.ref r0), (.int (2 : Int32)), (.int (3 : Int32))] ∧ Z.Warmed39 U.vm ∧ U.heap = h0) (fun _ _ _ _ _ => True) (fun _ U o U' => ∃ v L, o = .returned v ∧ QrmTokU23 Z r0 c0 c1 c2 ta kb tt ct cst fv h0 n0 v U'.heap L ∧ FrameEnd U o U' L ({ frames := 5, cells := 0, slots := 0, locals := 66 } : Room).cells ({ frames := 5, cells := 0, slots := 0, locals := 66 } : Room).slots) := by
 refine MetFree.of_bodySF (plainFor_of_name pnc_com_example_wary_bearer_warybearer_http_Http1Reader) hisR ?_
 intro p e s m args below meth c s₁ Bd hml0 hP hK
 obtain ⟨rfl, hZ, hh⟩ := hP
 have hx := Bd.exec
 have hby := Bd.bytes
 have hml : c.maxLocals = 5 := hml0
 have hown : s.vm.findClass "com/example/wary_bearer/warybearer/http/Http1Reader" = some m.cls := findClass_of_methodNamed Bd.named
 have hnm := (name_of_methodNamed Bd.named Bd.method).1
 have X0 : Stand p l e ({ frames := 5, cells := 0, slots := 0, locals := 66 } : Room) s m #[(.ref r0), (.int (2 : Int32)), (.int (3 : Int32))] below meth c s₁ [] 0 0 := Stand.of_body Bd
 have e0 : s₁.heap = h0 := by rw [← hh, Bd.state]; rfl
 have N0 := Fr.nil n0
 have kp0 : Keep h0 h0 [] := Keep.refl _ _
 have G0 : ∀ t, Steps p.tables e below (s₁.setTop (mkF m 0 #[rv r0, iv 2, iv 3, .unset, .unset] [])) t → Steps p.tables e below (s₁.setTop (entryFrame m #[(.ref r0), (.int (2 : Int32)), (.int (3 : Int32))] 5)) t := fun t k => castTop (ef_rmTokU23 m r0 (2 : Int32) (3 : Int32)) k
 have G1 : ∀ t, Steps p.tables e below (s₁.setTop (mkF m 2 #[rv r0, iv 2, iv 3, .unset, .unset] [(.int (3 : Int32)), (.int (2 : Int32))])) t → Steps p.tables e below (s₁.setTop (entryFrame m #[(.ref r0), (.int (2 : Int32)), (.int (3 : Int32))] 5)) t := by
  intro t kt
  refine G0 _ ?_
  refine XS.iloadN X0.here hx rfl (hb hby d8_0) rfl ?_
  refine XS.iloadN X0.here hx rfl (hb hby d8_1) rfl ?_
  exact kt
 have G2 : ∀ t, Steps p.tables e below (s₁.setTop (mkF m 11 #[rv r0, iv 2, iv 3, iv 2, .unset] [(.int (3 : Int32)), (.int (2 : Int32))])) t → Steps p.tables e below (s₁.setTop (entryFrame m #[(.ref r0), (.int (2 : Int32)), (.int (3 : Int32))] 5)) t := by
  intro t kt
  refine G1 _ ?_
  refine XS.icmpYes X0.here hx rfl (pc0 := 2) (pc' := 7) rfl (hb hby d8_2) rfl (tlt (by decide)).1 (by decide) (by decide) ?_
  refine XS.iloadN X0.here hx rfl (hb hby d8_7) rfl ?_
  refine XS.istoreN X0.here hx rfl (hb hby d8_8) rfl (l' := #[rv r0, iv 2, iv 3, iv 2, .unset]) rfl ?_
  refine XS.iloadN X0.here hx rfl (hb hby d8_9) rfl ?_
  refine XS.iloadN X0.here hx rfl (hb hby d8_10) rfl ?_
  exact kt
 obtain ⟨cq3, kq3, q3a, q3b, q3c⟩ := isOf hZ e0 E0
 obtain ⟨_, _, ⟨T3, L3, k3, n3⟩, -, X3, ⟨Lc3, hQ3, l3, y3, z3⟩, st3⟩ := X0.virtualBack hx (y := (⟨"java/lang/String", "charAt", "(I)C"⟩ : MethodName)) (z := (⟨"java/lang/String", "charAt", "(I)C"⟩ : MethodName)) hown (mvT hZ (hw _ (List.mem_of_getElem? (i := 62) rfl))) (mvT hZ (hw _ (List.mem_of_getElem? (i := 63) rfl))) (notFace_of_selects (args := #[]) (mvT hZ (hw _ (List.mem_of_getElem? (i := 65) rfl)))) (mvT hZ (hw _ (List.mem_of_getElem? (i := 65) rfl))) (mvT hZ (hw _ (List.mem_of_getElem? (i := 64) rfl))) (by decide) (backOf (W := 0) (rmChU l Z a0 hw [] r0 (2 : Int32) ta kb (6 : Int32) [(.int (nar .byte ((c0 >>> ((0 : Int32) &&& 31)).toInt8.toInt32))), (.int (nar .byte ((c0 >>> ((8 : Int32) &&& 31)).toInt8.toInt32))), (.int (nar .byte ((c1 >>> ((0 : Int32) &&& 31)).toInt8.toInt32))), (.int (nar .byte ((c1 >>> ((8 : Int32) &&& 31)).toInt8.toInt32))), (.int (nar .byte ((c2 >>> ((0 : Int32) &&& 31)).toInt8.toInt32))), (.int (nar .byte ((c2 >>> ((8 : Int32) &&& 31)).toInt8.toInt32)))] (nar .byte ((c2 >>> ((0 : Int32) &&& 31)).toInt8.toInt32)) (nar .byte ((c2 >>> ((8 : Int32) &&& 31)).toInt8.toInt32)) c2 cst fv h0 n0 Z0 E0 Fc Fv V0 O0 (by decide) (by decide) (by decide) (by decide) rfl rfl (own_utf c2 hb2) SS) hZ (hw _ (List.mem_of_getElem? (i := 66) rfl)) (hw _ (List.mem_of_getElem? (i := 8) rfl)) (by decide) (by decide)) q3a q3c (g := (mkF m 16 #[rv r0, iv 2, iv 3, iv 2, .unset] [(.int (2 : Int32)), (.ref r0)])) rfl (by rw [hml]; rfl) (Steps.refl _) (argsL := [(.int (2 : Int32))]) (rest := []) (lenOf pd_13 rfl) rfl (by show 2 * 0 + _ ≤ _; exact Nat.le_of_eq rfl) (hb hby d8_16) (fun _ _ => ⟨rfl, e0, (by decide : 0 + 0 ≤ _), (by decide : 0 + 0 ≤ _)⟩)
 dsimp only [Pt.U, Pt.locs, Pt.cells, Pt.slots] at X3 l3 y3 z3 st3 hQ3
 subst l3 y3 z3
 obtain ⟨rfl, N3q, eh3⟩ := hQ3
 have N3 := Fr.app N0 N3q
 obtain ⟨T4, X4, e4, st4⟩ := getS2 X3 hx hZ hown (host := "") (Or.inl (hw _ (List.mem_of_getElem? (i := 89) rfl))) Via.refl eh3 (TS.ext O0.2) (g := (mkF m 23 #[rv r0, iv 2, iv 3, iv 2, iv c2] [(.int c2)])) rfl (hb hby d8_23)
 have G5 : ∀ t, Steps p.tables e below (T4.setTop (mkF m 27 #[rv r0, iv 2, iv 3, iv 2, iv c2] [(.int (128 : Int32)), (.int c2)])) t → Steps p.tables e below (s₁.setTop (entryFrame m #[(.ref r0), (.int (2 : Int32)), (.int (3 : Int32))] 5)) t := by
  intro t kt
  refine G2 _ ?_
  refine XS.icmpNo X0.here hx rfl (hb hby d8_11) rfl (tlt (by decide)).2.1 ?_
  refine XS.aloadN X0.here hx rfl (hb hby d8_14) rfl rfl ?_
  refine XS.iloadN X0.here hx rfl (hb hby d8_15) rfl ?_
  refine st3.trans ?_
  refine XS.istore X3.here hx rfl (hb hby d8_19) rfl (l' := #[rv r0, iv 2, iv 3, iv 2, iv c2]) rfl ?_
  refine XS.iload X3.here hx rfl (hb hby d8_21) rfl ?_
  refine st4 _ ?_
  refine X4.arraylength hx (by rw [e4]; exact (TA.ext O0.2).1) (State.isArrayOf_alike hZ.alike (TA.ext O0.2).2.1) (g := (mkF m 26 #[rv r0, iv 2, iv 3, iv 2, iv c2] [(.ref tt), (.int c2)])) rfl rfl (hb hby d8_26) _ ?_
  rw [len_of TS2 (by decide)]
  exact kt
 by_cases hc27_6 : c2 < (128 : Int32)
 ·skip
  obtain ⟨T7, X7, e7, st7⟩ := getS2 X4 hx hZ hown (host := "") (Or.inl (hw _ (List.mem_of_getElem? (i := 89) rfl))) Via.refl e4 (TS.ext O0.2) (g := (mkF m 30 #[rv r0, iv 2, iv 3, iv 2, iv c2] [])) rfl (hb hby d8_30)
  have hn8 : ¬ (c2 < (0 : Int32)) := by rw [Int32.lt_iff_toInt_lt]; exact Int.not_lt.mpr hb2.1
  have hin8 : ¬ (c2 < 0 ∨ ct.slots.size ≤ (c2).toNatClampNeg) := inb_of TS2 ⟨hn8, hc27_6⟩
  have hat8 := TV c2 hn8 hc27_6
  have G9 : ∀ t, Steps p.tables e below (T7.setTop (mkF m 36 #[rv r0, iv 2, iv 3, iv 2, iv c2] [(.int (fisT c2))])) t → Steps p.tables e below (s₁.setTop (entryFrame m #[(.ref r0), (.int (2 : Int32)), (.int (3 : Int32))] 5)) t := by
   intro t kt
   refine G5 _ ?_
   refine XS.icmpNo X4.here hx rfl (hb hby d8_27) rfl (tlt hc27_6).2.1 ?_
   refine st7 _ ?_
   refine XS.iload X7.here hx rfl (hb hby d8_33) rfl ?_
   refine X7.baloadBooleans hx (j := c2) (v := (.int (fisT c2))) (by rw [e7]; exact (TA.ext O0.2).1) (State.isArrayOf_alike hZ.alike (TA.ext O0.2).2.1) (TA.ext O0.2).2.2 hin8 hat8 (g := (mkF m 35 #[rv r0, iv 2, iv 3, iv 2, iv c2] [(.int c2), (.ref tt)])) rfl rfl (hb hby d8_35) _ ?_
   exact kt
  by_cases hc36_10 : (fisT c2) = (0 : Int32)
  ·skip
   obtain ⟨fs, hr, hrun, hended, hW, hsame⟩ := X7.leave (v := some (.int (0 : Int32))) (fun h => by rw [Bd.returns] at h; cases h)
   refine ⟨_, _, G9 _ ?_, hrun, hended, _, _, rfl, ?_, ⟨_, rfl⟩, hW, hsame.mono (by decide) (by decide)⟩
   ·skip
    refine XS.ifNo X7.here hx rfl (hb hby d8_36) rfl ((if0 _ _).trans (teq hc36_10).2) ?_
    refine XS.iconst X7.here hx rfl (hb hby d8_39) ?_
    exact retN X7 hx (t := .boolean) Bd.returns (by simp) (hb hby d8_40) hr
   ·show QrmTokU23 Z r0 c0 c1 c2 ta kb tt ct cst fv h0 n0 _ T7.heap _
    rw [e7]
    exact ⟨by rw [own_tok, if_pos hc36_10], N3, rfl⟩
  ·skip
   have G11 : ∀ t, Steps p.tables e below (T7.setTop (mkF m 11 #[rv r0, iv 2, iv 3, iv 3, iv c2] [(.int (3 : Int32)), (.int (3 : Int32))])) t → Steps p.tables e below (s₁.setTop (entryFrame m #[(.ref r0), (.int (2 : Int32)), (.int (3 : Int32))] 5)) t := by
    intro t kt
    refine G9 _ ?_
    refine XS.ifYes X7.here hx rfl (pc0 := 36) (pc' := 41) rfl (hb hby d8_36) rfl ((if0 _ _).trans (feq hc36_10).2) (by decide) (by decide) ?_
    refine XS.iinc X7.here hx rfl (hb hby d8_41) rfl (l' := #[rv r0, iv 2, iv 3, iv 3, iv c2]) rfl ?_
    refine XS.goto X7.here hx rfl (pc0 := 44) (pc' := 9) rfl (hb hby d8_44) (by decide) (by decide) ?_
    refine XS.iloadN X7.here hx rfl (hb hby d8_9) rfl ?_
    show Steps p.tables e below (T7.setTop (mkF m 10 #[rv r0, iv 2, iv 3, iv 3, iv c2] [(.int (3 : Int32))])) _
    refine XS.iloadN X7.here hx rfl (hb hby d8_10) rfl ?_
    exact kt
   obtain ⟨fs, hr, hrun, hended, hW, hsame⟩ := X7.leave (v := some (.int (1 : Int32))) (fun h => by rw [Bd.returns] at h; cases h)
   refine ⟨_, _, G11 _ ?_, hrun, hended, _, _, rfl, ?_, ⟨_, rfl⟩, hW, hsame.mono (by decide) (by decide)⟩
   ·skip
    refine XS.icmpYes X7.here hx rfl (pc0 := 11) (pc' := 47) rfl (hb hby d8_11) rfl (flt (by decide)).2.1 (by decide) (by decide) ?_
    refine XS.iconst X7.here hx rfl (hb hby d8_47) ?_
    exact retN X7 hx (t := .boolean) Bd.returns (by simp) (hb hby d8_48) hr
   ·show QrmTokU23 Z r0 c0 c1 c2 ta kb tt ct cst fv h0 n0 _ T7.heap _
    rw [e7]
    exact ⟨by rw [own_tok, if_neg hc36_10, own_tok], N3, rfl⟩
 ·skip
  obtain ⟨fs, hr, hrun, hended, hW, hsame⟩ := X4.leave (v := some (.int (0 : Int32))) (fun h => by rw [Bd.returns] at h; cases h)
  refine ⟨_, _, G5 _ ?_, hrun, hended, _, _, rfl, ?_, ⟨_, rfl⟩, hW, hsame.mono (by decide) (by decide)⟩
  ·skip
   refine XS.icmpYes X4.here hx rfl (pc0 := 27) (pc' := 39) rfl (hb hby d8_27) rfl (flt hc27_6).2.1 (by decide) (by decide) ?_
   refine XS.iconst X4.here hx rfl (hb hby d8_39) ?_
   exact retN X4 hx (t := .boolean) Bd.returns (by simp) (hb hby d8_40) hr
  ·show QrmTokU23 Z r0 c0 c1 c2 ta kb tt ct cst fv h0 n0 _ T4.heap _
   rw [e4]
   exact ⟨by rw [own_tok, if_pos (own_big c2 hc27_6)], N3, rfl⟩
theorem d8_5 : decode prog_13_method_12_code 5 = .ok (.iconst 0, 1) := by decide +kernel
theorem d8_6 : decode prog_13_method_12_code 6 = .ok (.ireturn, 1) := by decide +kernel
def QTok0 (Z : State) (r0 : Addr) (p1 : Int32) (p2 : Int32) (h0 : Heap) (n0 : Nat) (v : Option Value) (h : Heap) (L : List Loc) : Prop := v = some (.int (0 : Int32)) ∧ Fr n0 L ∧ h = h0
theorem ef_rmTok0 (m : MethodId) (x0 : Addr) (x1 : Int32) (x2 : Int32) : entryFrame m #[(.ref x0), (.int x1), (.int x2)] 5 = mkF m 0 #[.val (.ref x0), .val (.int x1), .val (.int x2), .unset, .unset] [] := by first | (simp [entryFrame, mkF, argsToLocals, Value.category]; done) | rfl
set_option maxRecDepth 65536 in
set_option maxHeartbeats 40000000 in
theorem rmTok0 (l : Launch) (Z : State) (a0 : Array Value) (hw : ∀ d ∈ tables_1, d.before a0 Z = true) (ws : List Jvm.Cond) (r0 : Addr) (p1 : Int32) (p2 : Int32) (h0 : Heap) (n0 : Nat) (Z0 : n0 ≤ h0.size) (hge : ¬ (p1 < p2)) :
  MetFree l (⟨"com/example/wary_bearer/warybearer/http/Http1Reader", "isToken", "(Ljava/lang/String;II)Z"⟩ : MethodName) (head1 (Jvm.Cond.code (⟨"com/example/wary_bearer/warybearer/http/Http1Reader", "isToken", "(Ljava/lang/String;II)Z"⟩ : MethodName) prog_13_method_12_code 5 (some .boolean) :: ws) ({ frames := 0, cells := 0, slots := 0, locals := 0 } : Room)) (fun a U => a = #[(.ref r0), (.int p1), (.int p2)] ∧ Z.Warmed39 U.vm ∧ U.heap = h0) (fun _ _ _ _ _ => True) (fun _ U o U' => ∃ v L, o = .returned v ∧ QTok0 Z r0 p1 p2 h0 n0 v U'.heap L ∧ FrameEnd U o U' L ({ frames := 0, cells := 0, slots := 0, locals := 0 } : Room).cells ({ frames := 0, cells := 0, slots := 0, locals := 0 } : Room).slots) := by
 refine MetFree.of_bodySF (plainFor_of_name pnc_com_example_wary_bearer_warybearer_http_Http1Reader) hisR ?_
 intro p e s m args below meth c s₁ Bd hml0 hP hK
 obtain ⟨rfl, hZ, hh⟩ := hP
 have hx := Bd.exec
 have hby := Bd.bytes
 have hml : c.maxLocals = 5 := hml0
 have hown : s.vm.findClass "com/example/wary_bearer/warybearer/http/Http1Reader" = some m.cls := findClass_of_methodNamed Bd.named
 have hnm := (name_of_methodNamed Bd.named Bd.method).1
 have X0 : Stand p l e ({ frames := 0, cells := 0, slots := 0, locals := 0 } : Room) s m #[(.ref r0), (.int p1), (.int p2)] below meth c s₁ [] 0 0 := Stand.of_body Bd
 have e0 : s₁.heap = h0 := by rw [← hh, Bd.state]; rfl
 have N0 := Fr.nil n0
 have kp0 : Keep h0 h0 [] := Keep.refl _ _
 have G0 : ∀ t, Steps p.tables e below (s₁.setTop (mkF m 0 #[rv r0, iv p1, iv p2, .unset, .unset] [])) t → Steps p.tables e below (s₁.setTop (entryFrame m #[(.ref r0), (.int p1), (.int p2)] 5)) t := fun t k => castTop (ef_rmTok0 m r0 p1 p2) k
 have G1 : ∀ t, Steps p.tables e below (s₁.setTop (mkF m 2 #[rv r0, iv p1, iv p2, .unset, .unset] [(.int p2), (.int p1)])) t → Steps p.tables e below (s₁.setTop (entryFrame m #[(.ref r0), (.int p1), (.int p2)] 5)) t := by
  intro t kt
  refine G0 _ ?_
  refine XS.iloadN X0.here hx rfl (hb hby d8_0) rfl ?_
  refine XS.iloadN X0.here hx rfl (hb hby d8_1) rfl ?_
  exact kt
 have hc2_2 : ¬ (p1 < p2) := hge
 obtain ⟨fs, hr, hrun, hended, hW, hsame⟩ := X0.leave (v := some (.int (0 : Int32))) (fun h => by rw [Bd.returns] at h; cases h)
 refine ⟨_, _, G1 _ ?_, hrun, hended, _, _, rfl, ?_, ⟨_, rfl⟩, hW, hsame.mono (by decide) (by decide)⟩
 ·skip
  refine XS.icmpNo X0.here hx rfl (hb hby d8_2) rfl (flt hc2_2).1 ?_
  refine XS.iconst X0.here hx rfl (hb hby d8_5) ?_
  exact retN X0 hx (t := .boolean) Bd.returns (by simp) (hb hby d8_6) hr
 ·show QTok0 Z r0 p1 p2 h0 n0 _ s₁.heap _
  rw [e0]
  exact ⟨rfl, N0, rfl⟩
theorem own_m3 (x : Int32) : 0 ≤ (x &&& (3 : Int32)).toInt ∧ (x &&& (3 : Int32)).toInt ≤ 3 := by
  have a := c_mask x 3 2 (by decide) (by decide)
  have p2 : ((2 ^ 2 : Nat) : Int) = 4 := by decide
  rw [p2] at a
  omega
theorem own_at4 {a : Int32} (h : 0 ≤ a.toInt ∧ a.toInt ≤ 3) : a = 0 ∨ a = 1 ∨ a = 2 ∨ a = 3 := by
  have e : a.toInt = 0 ∨ a.toInt = 1 ∨ a.toInt = 2 ∨ a.toInt = 3 := by omega
  rcases e with e | e | e | e
  · exact Or.inl (Int32.toInt_inj.mp e)
  · exact Or.inr (Or.inl (Int32.toInt_inj.mp e))
  · exact Or.inr (Or.inr (Or.inl (Int32.toInt_inj.mp e)))
  · exact Or.inr (Or.inr (Or.inr (Int32.toInt_inj.mp e)))
theorem pd_14 : parseMethodDescriptor "([C)V" = some ⟨[(.array .char)], none⟩ := by decide +kernel
theorem pd_15 : parseMethodDescriptor "(Ljava/lang/String;II)Z" = some ⟨[(.object "java/lang/String"), .int, .int], some .boolean⟩ := by decide +kernel
theorem pd_16 : parseMethodDescriptor "(C)Z" = some ⟨[.char], some .boolean⟩ := by decide +kernel
def Q0 (Z : State) (p0 : Int32) (p1 : Int32) (p2 : Int32) (p3 : Int32) (tt : Addr) (ct : Cell) (cst : Int32) (fv : Value) (h0 : Heap) (n0 : Nat) (v : Option Value) (h : Heap) (L : List Loc) : Prop := v = some (.int (1 : Int32)) ∧ Fr n0 L
theorem ef_rm0 (m : MethodId) (x0 : Int32) (x1 : Int32) (x2 : Int32) (x3 : Int32) : entryFrame m #[(.int x0), (.int x1), (.int x2), (.int x3)] maxLocals = mkF m 0 #[.val (.int x0), .val (.int x1), .val (.int x2), .val (.int x3), .unset, .unset, .unset, .unset, .unset, .unset, .unset, .unset, .unset, .unset, .unset, .unset] [] := by first | (simp [entryFrame, mkF, argsToLocals, Value.category, maxLocals]; done) | rfl
set_option maxRecDepth 65536 in
set_option maxHeartbeats 40000000 in
theorem rm0 (l : Launch) (Z : State) (a0 : Array Value) (hw : ∀ d ∈ tables_1, d.before a0 Z = true) (ws : List Jvm.Cond) (p0 : Int32) (p1 : Int32) (p2 : Int32) (p3 : Int32) (tt : Addr) (ct : Cell) (cst : Int32) (fv : Value) (h0 : Heap) (n0 : Nat) (Z0 : n0 ≤ h0.size) (O0 : Old Z n0 h0) (TS : Sta Z Z.heap "com/example/wary_bearer/warybearer/http/Http1Reader" "TCHAR" "[Z" (.ref tt)) (TA : Arr Z Z.heap tt ct .boolean) (TS2 : ct.slots.size = (128 : Int32).toNatClampNeg) (TV : ∀ j : Int32, ¬ (j < (0 : Int32)) → j < (128 : Int32) → ct.slots[j.toNatClampNeg]? = some (.int (fisT j))) (SS : Sts Z cst fv) :
  MetFree l x (head1 (Jvm.Cond.code x code maxLocals ret :: ws) room_1) (fun a U => a = #[(.int p0), (.int p1), (.int p2), (.int p3)] ∧ Z.Warmed39 U.vm ∧ U.heap = h0) (fun _ _ _ _ _ => True) (fun _ U o U' => ∃ v L, o = .returned v ∧ Q0 Z p0 p1 p2 p3 tt ct cst fv h0 n0 v U'.heap L ∧ FrameEnd U o U' L room_1.cells room_1.slots) := by
 refine MetFree.of_bodySF (plainFor_of_name pnc_com_example_wary_bearer_warybearer_http_Http1ReaderIsTokenPinLaw) hisR ?_
 intro p e s m args below meth c s₁ Bd hml0 hP hK
 obtain ⟨rfl, hZ, hh⟩ := hP
 have hx := Bd.exec
 have hby := Bd.bytes
 have hml : c.maxLocals = 16 := hml0
 have hown : s.vm.findClass "com/example/wary_bearer/warybearer/http/Http1ReaderIsTokenPinLaw" = some m.cls := findClass_of_methodNamed Bd.named
 have hnm := (name_of_methodNamed Bd.named Bd.method).1
 have X0 : Stand p l e room_1 s m #[(.int p0), (.int p1), (.int p2), (.int p3)] below meth c s₁ [] 0 0 := Stand.of_body Bd
 have e0 : s₁.heap = h0 := by rw [← hh, Bd.state]; rfl
 have N0 := Fr.nil n0
 have kp0 : Keep h0 h0 [] := Keep.refl _ _
 have G0 : ∀ t, Steps p.tables e below (s₁.setTop (mkF m 0 #[iv p0, iv p1, iv p2, iv p3, .unset, .unset, .unset, .unset, .unset, .unset, .unset, .unset, .unset, .unset, .unset, .unset] [])) t → Steps p.tables e below (s₁.setTop (entryFrame m #[(.int p0), (.int p1), (.int p2), (.int p3)] maxLocals)) t := fun t k => castTop (ef_rm0 m p0 p1 p2 p3) k
 obtain ⟨_, _, ⟨T1, L1, k1, n1⟩, -, X1, ⟨Lc1, hQ1, l1, y1, z1⟩, st1⟩ := Jvm.LawKit.callS X0 hx (y := (⟨"com/example/wary_bearer/warybearer/http/Http1ReaderIsTokenPinLaw", "draw", "(I)C"⟩ : MethodName)) hown (mvT hZ (hw _ (List.mem_of_getElem? (i := 0) rfl))) (mvT hZ (hw _ (List.mem_of_getElem? (i := 1) rfl))) (mvT hZ (hw _ (List.mem_of_getElem? (i := 2) rfl))) (mvT hZ (hw _ (List.mem_of_getElem? (i := 3) rfl))) (by decide) (backOf (W := 0) (rm1 l Z a0 hw [] p0  h0 n0 Z0 ) hZ (hw _ (List.mem_of_getElem? (i := 3) rfl)) (hw _ (List.mem_of_getElem? (i := 2) rfl)) (by decide) (by decide)) (g := (mkF m 1 #[iv p0, iv p1, iv p2, iv p3, .unset, .unset, .unset, .unset, .unset, .unset, .unset, .unset, .unset, .unset, .unset, .unset] [(.int p0)])) rfl (by rw [hml]; rfl) (argsL := [(.int p0)]) (rest := []) (lenOf pd_13 rfl) rfl (by show 2 * 0 + _ ≤ _; exact Nat.le_of_eq rfl) (hb hby at_1) (fun _ _ => ⟨rfl, e0, (by decide : 0 + 0 ≤ _), (by decide : 0 + 0 ≤ _)⟩)
 dsimp only [Pt.U, Pt.locs, Pt.cells, Pt.slots] at X1 l1 y1 z1 st1 hQ1
 subst l1 y1 z1
 obtain ⟨rfl, N1q, eh1⟩ := hQ1
 have N1 := Fr.app N0 N1q
 obtain ⟨_, _, ⟨T2, L2, k2, n2⟩, -, X2, ⟨Lc2, hQ2, l2, y2, z2⟩, st2⟩ := Jvm.LawKit.callS X1 hx (y := (⟨"com/example/wary_bearer/warybearer/http/Http1ReaderIsTokenPinLaw", "draw", "(I)C"⟩ : MethodName)) hown (mvT hZ (hw _ (List.mem_of_getElem? (i := 0) rfl))) (mvT hZ (hw _ (List.mem_of_getElem? (i := 1) rfl))) (mvT hZ (hw _ (List.mem_of_getElem? (i := 2) rfl))) (mvT hZ (hw _ (List.mem_of_getElem? (i := 3) rfl))) (by decide) (backOf (W := 0) (rm1 l Z a0 hw [] p1  h0 n0 Z0 ) hZ (hw _ (List.mem_of_getElem? (i := 3) rfl)) (hw _ (List.mem_of_getElem? (i := 2) rfl)) (by decide) (by decide)) (g := (mkF m 7 #[iv p0, iv p1, iv p2, iv p3, iv (fdraw p0), .unset, .unset, .unset, .unset, .unset, .unset, .unset, .unset, .unset, .unset, .unset] [(.int p1)])) rfl (by rw [hml]; rfl) (argsL := [(.int p1)]) (rest := []) (lenOf pd_13 rfl) rfl (by show 2 * 0 + _ ≤ _; exact Nat.le_of_eq rfl) (hb hby at_7) (fun _ _ => ⟨rfl, eh1, (by decide : 0 + 0 ≤ _), (by decide : 0 + 0 ≤ _)⟩)
 dsimp only [Pt.U, Pt.locs, Pt.cells, Pt.slots] at X2 l2 y2 z2 st2 hQ2
 subst l2 y2 z2
 obtain ⟨rfl, N2q, eh2⟩ := hQ2
 have N2 := Fr.app N1 N2q
 obtain ⟨_, _, ⟨T3, L3, k3, n3⟩, -, X3, ⟨Lc3, hQ3, l3, y3, z3⟩, st3⟩ := Jvm.LawKit.callS X2 hx (y := (⟨"com/example/wary_bearer/warybearer/http/Http1ReaderIsTokenPinLaw", "draw", "(I)C"⟩ : MethodName)) hown (mvT hZ (hw _ (List.mem_of_getElem? (i := 0) rfl))) (mvT hZ (hw _ (List.mem_of_getElem? (i := 1) rfl))) (mvT hZ (hw _ (List.mem_of_getElem? (i := 2) rfl))) (mvT hZ (hw _ (List.mem_of_getElem? (i := 3) rfl))) (by decide) (backOf (W := 0) (rm1 l Z a0 hw [] p2  h0 n0 Z0 ) hZ (hw _ (List.mem_of_getElem? (i := 3) rfl)) (hw _ (List.mem_of_getElem? (i := 2) rfl)) (by decide) (by decide)) (g := (mkF m 13 #[iv p0, iv p1, iv p2, iv p3, iv (fdraw p0), iv (fdraw p1), .unset, .unset, .unset, .unset, .unset, .unset, .unset, .unset, .unset, .unset] [(.int p2)])) rfl (by rw [hml]; rfl) (argsL := [(.int p2)]) (rest := []) (lenOf pd_13 rfl) rfl (by show 2 * 0 + _ ≤ _; exact Nat.le_of_eq rfl) (hb hby at_13) (fun _ _ => ⟨rfl, eh2, (by decide : 0 + 0 ≤ _), (by decide : 0 + 0 ≤ _)⟩)
 dsimp only [Pt.U, Pt.locs, Pt.cells, Pt.slots] at X3 l3 y3 z3 st3 hQ3
 subst l3 y3 z3
 obtain ⟨rfl, N3q, eh3⟩ := hQ3
 have N3 := Fr.app N2 N3q
 have G4 : ∀ t, Steps p.tables e below (T3.setTop (mkF m 18 #[iv p0, iv p1, iv p2, iv p3, iv (fdraw p0), iv (fdraw p1), iv (fdraw p2), .unset, .unset, .unset, .unset, .unset, .unset, .unset, .unset, .unset] [])) t → Steps p.tables e below (s₁.setTop (entryFrame m #[(.int p0), (.int p1), (.int p2), (.int p3)] maxLocals)) t := by
  intro t kt
  refine G0 _ ?_
  refine XS.iloadN X0.here hx rfl (hb hby at_0) rfl ?_
  refine st1 _ ?_
  refine XS.istore X1.here hx rfl (hb hby at_4) rfl (l' := #[iv p0, iv p1, iv p2, iv p3, iv (fdraw p0), .unset, .unset, .unset, .unset, .unset, .unset, .unset, .unset, .unset, .unset, .unset]) rfl ?_
  refine XS.iloadN X1.here hx rfl (hb hby at_6) rfl ?_
  refine st2 _ ?_
  refine XS.istore X2.here hx rfl (hb hby at_10) rfl (l' := #[iv p0, iv p1, iv p2, iv p3, iv (fdraw p0), iv (fdraw p1), .unset, .unset, .unset, .unset, .unset, .unset, .unset, .unset, .unset, .unset]) rfl ?_
  refine XS.iloadN X2.here hx rfl (hb hby at_12) rfl ?_
  refine st3 _ ?_
  refine XS.istore X3.here hx rfl (hb hby at_16) rfl (l' := #[iv p0, iv p1, iv p2, iv p3, iv (fdraw p0), iv (fdraw p1), iv (fdraw p2), .unset, .unset, .unset, .unset, .unset, .unset, .unset, .unset, .unset]) rfl ?_
  exact kt
 obtain ⟨c0, hc0⟩ : ∃ z : Int32, z = (fdraw p0) := ⟨_, rfl⟩
 obtain ⟨c1, hc1⟩ : ∃ z : Int32, z = (fdraw p1) := ⟨_, rfl⟩
 obtain ⟨c2, hc2⟩ : ∃ z : Int32, z = (fdraw p2) := ⟨_, rfl⟩
 have G5 : ∀ t, Steps p.tables e below (T3.setTop (mkF m 18 #[iv p0, iv p1, iv p2, iv p3, iv c0, iv c1, iv c2, .unset, .unset, .unset, .unset, .unset, .unset, .unset, .unset, .unset] [])) t → Steps p.tables e below (s₁.setTop (entryFrame m #[(.int p0), (.int p1), (.int p2), (.int p3)] maxLocals)) t := by
  intro t kt
  rw [hc0, hc1, hc2] at kt
  exact G4 t kt
 have hb0 : 0 ≤ c0.toInt ∧ c0.toInt ≤ 65535 := by rw [hc0]; exact own_draw _
 have hb1 : 0 ≤ c1.toInt ∧ c1.toInt ≤ 65535 := by rw [hc1]; exact own_draw _
 have hb2 : 0 ≤ c2.toInt ∧ c2.toInt ≤ 65535 := by rw [hc2]; exact own_draw _
 obtain ⟨T6, h6, k6, X6, e6, E6, A6, st6⟩ := newP X3 hx hZ (hw _ (List.mem_of_getElem? (i := 5) rfl)) eh3 (g := (mkF m 19 #[iv p0, iv p1, iv p2, iv p3, iv c0, iv c1, iv c2, .unset, .unset, .unset, .unset, .unset, .unset, .unset, .unset, .unset] [(.int (3 : Int32))])) rfl (hb hby at_19) rfl (by decide) (cap := 3) (by decide) (by decide) (by decide) (by decide)
 obtain ⟨b6, g6⟩ : ∃ z, z = h0.size := ⟨_, rfl⟩
 rw [← g6] at A6 st6
 have g_b6 : n0 ≤ b6 := Nat.le_trans Z0 (Nat.le_of_eq g6.symm)
 have sz_b6 : h0.size ≤ b6 := Nat.le_trans kp0.1 (Nat.le_of_eq g6.symm)
 have fa7 : Old Z n0 h6 := O0.ext E6
 have z8 : n0 ≤ h6.size := Nat.le_trans Z0 E6.1
 have kp9 : Keep h0 h6 [] := kp0.ext E6
 have fa10 : Arv Z h6 b6 k6 .char (3 : Int32) [(.int (0 : Int32)), (.int (0 : Int32)), (.int (0 : Int32))] (.int (0 : Int32)) := (Arv.new A6 (by decide)).pad (pad_rep [] (.int (0 : Int32)) 3)
 obtain ⟨cl11, Ar11, q11, S11, M11, H11, G11⟩ := id fa10
 have hin11 : ¬ ((0 : Int32) < 0 ∨ cl11.slots.size ≤ ((0 : Int32)).toNatClampNeg) := inb_of S11 ⟨by decide, by decide⟩
 obtain ⟨T12, h12, X12, e12, W12, st12⟩ := stC X6 hx hZ e6 Ar11 (j := (0 : Int32)) hin11 (g := (mkF m 28 #[iv p0, iv p1, iv p2, iv p3, iv c0, iv c1, iv c2, rv b6, .unset, .unset, .unset, .unset, .unset, .unset, .unset, .unset] [(.int c0), (.int (0 : Int32)), (.ref b6)])) rfl rfl (hb hby at_28)
 have fa13 : Old Z n0 h12 := fa7.wr W12 g_b6
 have z14 : n0 ≤ h12.size := Nat.le_trans z8 (Nat.le_of_eq W12.size.symm)
 have kp15 : Keep h0 h12 [] := kp9.wr W12 (Or.inr sz_b6)
 have fa16 : Arv Z h12 b6 k6 .char (3 : Int32) [(.int (nar .char c0)), (.int (0 : Int32)), (.int (0 : Int32))] (.int (0 : Int32)) := Arv.set Ar11 q11 S11 M11 H11 G11 (fits_nar_char _) W12 0 rfl (Nat.le_of_ble_eq_true rfl)
 have N12 := Fr.snoc X12 N3 g_b6
 obtain ⟨cl17, Ar17, q17, S17, M17, H17, G17⟩ := id fa16
 have hin17 : ¬ ((1 : Int32) < 0 ∨ cl17.slots.size ≤ ((1 : Int32)).toNatClampNeg) := inb_of S17 ⟨by decide, by decide⟩
 obtain ⟨T18, h18, X18, e18, W18, st18⟩ := stC X12 hx hZ e12 Ar17 (j := (1 : Int32)) hin17 (g := (mkF m 34 #[iv p0, iv p1, iv p2, iv p3, iv c0, iv c1, iv c2, rv b6, .unset, .unset, .unset, .unset, .unset, .unset, .unset, .unset] [(.int c1), (.int (1 : Int32)), (.ref b6)])) rfl rfl (hb hby at_34)
 have fa19 : Old Z n0 h18 := fa13.wr W18 g_b6
 have z20 : n0 ≤ h18.size := Nat.le_trans z14 (Nat.le_of_eq W18.size.symm)
 have kp21 : Keep h0 h18 [] := kp15.wr W18 (Or.inr sz_b6)
 have fa22 : Arv Z h18 b6 k6 .char (3 : Int32) [(.int (nar .char c0)), (.int (nar .char c1)), (.int (0 : Int32))] (.int (0 : Int32)) := Arv.set Ar17 q17 S17 M17 H17 G17 (fits_nar_char _) W18 1 rfl (Nat.le_of_ble_eq_true rfl)
 have N18 := Fr.snoc X18 N12 g_b6
 obtain ⟨cl23, Ar23, q23, S23, M23, H23, G23⟩ := id fa22
 have hin23 : ¬ ((2 : Int32) < 0 ∨ cl23.slots.size ≤ ((2 : Int32)).toNatClampNeg) := inb_of S23 ⟨by decide, by decide⟩
 obtain ⟨T24, h24, X24, e24, W24, st24⟩ := stC X18 hx hZ e18 Ar23 (j := (2 : Int32)) hin23 (g := (mkF m 40 #[iv p0, iv p1, iv p2, iv p3, iv c0, iv c1, iv c2, rv b6, .unset, .unset, .unset, .unset, .unset, .unset, .unset, .unset] [(.int c2), (.int (2 : Int32)), (.ref b6)])) rfl rfl (hb hby at_40)
 have fa25 : Old Z n0 h24 := fa19.wr W24 g_b6
 have z26 : n0 ≤ h24.size := Nat.le_trans z20 (Nat.le_of_eq W24.size.symm)
 have kp27 : Keep h0 h24 [] := kp21.wr W24 (Or.inr sz_b6)
 have fa28 : Arv Z h24 b6 k6 .char (3 : Int32) [(.int (nar .char c0)), (.int (nar .char c1)), (.int (nar .char c2))] (.int (0 : Int32)) := Arv.set Ar23 q23 S23 M23 H23 G23 (fits_nar_char _) W24 2 rfl (Nat.le_of_ble_eq_true rfl)
 have N24 := Fr.snoc X24 N18 g_b6
 have fa29 : Arv Z h24 b6 k6 .char (3 : Int32) [(.int c0), (.int c1), (.int c2)] (.int (0 : Int32)) := by have q := fa28; rw [own_narc c0 hb0, own_narc c1 hb1, own_narc c2 hb2] at q; exact q
 obtain ⟨T30, h30, X30, e30, E30, A30, D30, -, st30⟩ := newO X24 hx hZ hown (hw _ (List.mem_of_getElem? (i := 6) rfl)) (hw _ (List.mem_of_getElem? (i := 7) rfl)) (hw _ (List.mem_of_getElem? (i := 8) rfl)) e24 (g := (mkF m 41 #[iv p0, iv p1, iv p2, iv p3, iv c0, iv c1, iv c2, rv b6, .unset, .unset, .unset, .unset, .unset, .unset, .unset, .unset] [])) rfl (hb hby at_41) (by decide) (by decide)
 obtain ⟨b30, g30⟩ : ∃ z, z = h24.size := ⟨_, rfl⟩
 rw [← g30] at A30 D30 st30
 have g_b30 : n0 ≤ b30 := Nat.le_trans z26 (Nat.le_of_eq g30.symm)
 have sz_b30 : h0.size ≤ b30 := Nat.le_trans kp27.1 (Nat.le_of_eq g30.symm)
 have ne_b6_b30 : b6 ≠ b30 := Nat.ne_of_lt (Nat.lt_of_lt_of_le fa29.lt (Nat.le_of_eq g30.symm))
 have fa31 : Old Z n0 h30 := fa25.ext E30
 have fa32 : Arv Z h30 b6 k6 .char (3 : Int32) [(.int c0), (.int c1), (.int c2)] (.int (0 : Int32)) := fa29.ext E30
 have z33 : n0 ≤ h30.size := Nat.le_trans z26 E30.1
 have kp34 : Keep h0 h30 [] := kp27.ext E30
 have fa35 : Fld Z h30 b30 "java/lang/String" "coder" "B" (.int (0 : Int32)) := D30 (Or.inr (hw _ (List.mem_of_getElem? (i := 32) rfl))) (ty := .byte) (by decide)
 have fa36 : Fld Z h30 b30 "java/lang/String" "value" "[B" .null := D30 (Or.inr (hw _ (List.mem_of_getElem? (i := 34) rfl))) (ty := (.array .byte)) (by decide)
 obtain ⟨_, _, ⟨T37, L37, k37, n37⟩, -, X37, ⟨Lc37, hQ37, l37, y37, z37⟩, st37⟩ := X30.specialBack hx (y := (⟨"java/lang/String", "<init>", "([C)V"⟩ : MethodName)) rfl hown (mvT hZ (hw _ (List.mem_of_getElem? (i := 9) rfl))) (mvT hZ (hw _ (List.mem_of_getElem? (i := 10) rfl))) (mvT hZ (hw _ (List.mem_of_getElem? (i := 11) rfl))) (by decide) (backOf (W := 1) (rmSF_3 l Z a0 hw [] b30 b6 c0 c1 c2 k6 cst fv h30 n0 z33 A30 fa36 fa35 fa32 fa31 g_b30 (Ne.symm ne_b6_b30) hb0 hb1 hb2 SS) hZ (hw _ (List.mem_of_getElem? (i := 11) rfl)) (hw _ (List.mem_of_getElem? (i := 8) rfl)) (by decide) (by decide)) (g := (mkF m 47 #[iv p0, iv p1, iv p2, iv p3, iv c0, iv c1, iv c2, rv b6, .unset, .unset, .unset, .unset, .unset, .unset, .unset, .unset] [(.ref b6), (.ref b30), (.ref b30)])) rfl (by rw [hml]; rfl) (Steps.refl _) (a := b30) (argsL := [(.ref b6)]) (rest := [(.ref b30)]) (lenOf pd_14 rfl) rfl (by show 2 * 0 + _ ≤ _; exact Nat.le_of_eq rfl) (hb hby at_47) (fun _ _ => ⟨rfl, e30, (by decide : 2 + 2 ≤ _), (by decide : 7 + 9 ≤ _)⟩)
 dsimp only [Pt.U, Pt.locs, Pt.cells, Pt.slots] at X37 l37 y37 z37 st37 hQ37
 subst l37 y37 z37
 rcases hQ37 with ⟨rfl, N37q, K37, A37, hq37, Fc37, ta37, kb37, Fv37, sz37, g_ta37, V37⟩ | ⟨rfl, N37q, K37, A37, hq37, Fc37, ta37, kb37, Fv37, sz37, g_ta37, V37⟩
 ·skip
  have N37 := Fr.app N24 N37q
  have szk37 : h0.size ≤ ta37 := Nat.le_trans kp34.1 sz37
  have ne_b6_ta37 : b6 ≠ ta37 := Nat.ne_of_lt (Nat.lt_of_lt_of_le fa32.lt sz37)
  have ne_b30_ta37 : b30 ≠ ta37 := Nat.ne_of_lt (Nat.lt_of_lt_of_le A30.lt sz37)
  have fa38 : Old Z n0 T37.heap := fa31.keep K37 (allS g_b30 all0)
  have fa39 : Arv Z T37.heap b6 k6 .char (3 : Int32) [(.int c0), (.int c1), (.int c2)] (.int (0 : Int32)) := fa32.keep K37 (ninS ne_b6_b30 nin0)
  have fa40 : Exa Z T37.heap b30 "java/lang/String" := A30.keep K37
  have z41 : n0 ≤ T37.heap.size := Nat.le_trans z33 K37.1
  have kp42 : Keep h0 T37.heap [] := kp34.trans K37 (allS (Or.inr sz_b30) all0)
  have G43 : ∀ t, Steps p.tables e below (T37.setTop (mkF m 64 #[iv p0, iv p1, iv p2, iv p3, iv c0, iv c1, iv c2, rv b6, rv b30, iv (p3 &&& (3 : Int32)), iv (((p3.toUInt32 >>> ((2 : Int32) &&& 31).toUInt32).toInt32) &&& (3 : Int32)), .unset, .unset, .unset, .unset, .unset] [])) t → Steps p.tables e below (s₁.setTop (entryFrame m #[(.int p0), (.int p1), (.int p2), (.int p3)] maxLocals)) t := by
   intro t kt
   refine G5 _ ?_
   refine XS.iconst X3.here hx rfl (hb hby at_18) ?_
   refine st6 _ ?_
   refine XS.astore X6.here hx rfl (hb hby at_21) rfl rfl (l' := #[iv p0, iv p1, iv p2, iv p3, iv c0, iv c1, iv c2, rv b6, .unset, .unset, .unset, .unset, .unset, .unset, .unset, .unset]) rfl ?_
   refine XS.aload X6.here hx rfl (hb hby at_23) rfl rfl ?_
   refine XS.iconst X6.here hx rfl (hb hby at_25) ?_
   refine XS.iload X6.here hx rfl (hb hby at_26) rfl ?_
   refine st12 _ ?_
   refine XS.aload X12.here hx rfl (hb hby at_29) rfl rfl ?_
   refine XS.iconst X12.here hx rfl (hb hby at_31) ?_
   refine XS.iload X12.here hx rfl (hb hby at_32) rfl ?_
   show Steps p.tables e below (T12.setTop (mkF m 34 #[iv p0, iv p1, iv p2, iv p3, iv c0, iv c1, iv c2, rv b6, .unset, .unset, .unset, .unset, .unset, .unset, .unset, .unset] [(.int c1), (.int (1 : Int32)), (.ref b6)])) _
   refine st18 _ ?_
   refine XS.aload X18.here hx rfl (hb hby at_35) rfl rfl ?_
   refine XS.iconst X18.here hx rfl (hb hby at_37) ?_
   refine XS.iload X18.here hx rfl (hb hby at_38) rfl ?_
   refine st24 _ ?_
   refine st30 _ ?_
   refine XS.dup X30.here hx rfl (hb hby at_44) rfl rfl ?_
   refine XS.aload X30.here hx rfl (hb hby at_45) rfl rfl ?_
   refine st37.trans ?_
   refine XS.astore X37.here hx rfl (hb hby at_50) rfl rfl (l' := #[iv p0, iv p1, iv p2, iv p3, iv c0, iv c1, iv c2, rv b6, rv b30, .unset, .unset, .unset, .unset, .unset, .unset, .unset]) rfl ?_
   refine XS.iloadN X37.here hx rfl (hb hby at_52) rfl ?_
   refine XS.iconst X37.here hx rfl (hb hby at_53) ?_
   refine XS.iand X37.here hx rfl (hb hby at_54) rfl ?_
   refine XS.istore X37.here hx rfl (hb hby at_55) rfl (l' := #[iv p0, iv p1, iv p2, iv p3, iv c0, iv c1, iv c2, rv b6, rv b30, iv (p3 &&& (3 : Int32)), .unset, .unset, .unset, .unset, .unset, .unset]) rfl ?_
   refine XS.iloadN X37.here hx rfl (hb hby at_57) rfl ?_
   refine XS.iconst X37.here hx rfl (hb hby at_58) ?_
   refine XS.iushr X37.here hx rfl (hb hby at_59) rfl ?_
   refine XS.iconst X37.here hx rfl (hb hby at_60) ?_
   refine XS.iand X37.here hx rfl (hb hby at_61) rfl ?_
   refine XS.istore X37.here hx rfl (hb hby at_62) rfl (l' := #[iv p0, iv p1, iv p2, iv p3, iv c0, iv c1, iv c2, rv b6, rv b30, iv (p3 &&& (3 : Int32)), iv (((p3.toUInt32 >>> ((2 : Int32) &&& 31).toUInt32).toInt32) &&& (3 : Int32)), .unset, .unset, .unset, .unset, .unset]) rfl ?_
   exact kt
  obtain ⟨fr, hfr⟩ : ∃ z : Int32, z = (p3 &&& (3 : Int32)) := ⟨_, rfl⟩
  obtain ⟨to_, hto_⟩ : ∃ z : Int32, z = (((p3.toUInt32 >>> ((2 : Int32) &&& 31).toUInt32).toInt32) &&& (3 : Int32)) := ⟨_, rfl⟩
  have G44 : ∀ t, Steps p.tables e below (T37.setTop (mkF m 64 #[iv p0, iv p1, iv p2, iv p3, iv c0, iv c1, iv c2, rv b6, rv b30, iv fr, iv to_, .unset, .unset, .unset, .unset, .unset] [])) t → Steps p.tables e below (s₁.setTop (entryFrame m #[(.int p0), (.int p1), (.int p2), (.int p3)] maxLocals)) t := by
   intro t kt
   rw [hfr, hto_] at kt
   exact G43 t kt
  have hfr4 : 0 ≤ fr.toInt ∧ fr.toInt ≤ 3 := by rw [hfr]; exact own_m3 _
  have hto4 : 0 ≤ to_.toInt ∧ to_.toInt ≤ 3 := by rw [hto_]; exact own_m3 _
  rcases own_at4 hfr4 with rfl | rfl | rfl | rfl
  ·rcases own_at4 hto4 with rfl | rfl | rfl | rfl
   ·skip
    have G45 : ∀ t, Steps p.tables e below (T37.setTop (mkF m 66 #[iv p0, iv p1, iv p2, iv p3, iv c0, iv c1, iv c2, rv b6, rv b30, iv 0, iv 0, .unset, .unset, .unset, .unset, .unset] [(.int (0 : Int32))])) t → Steps p.tables e below (s₁.setTop (entryFrame m #[(.int p0), (.int p1), (.int p2), (.int p3)] maxLocals)) t := by
     intro t kt
     refine G44 _ ?_
     show Steps p.tables e below (T37.setTop (mkF m 64 #[iv p0, iv p1, iv p2, iv p3, iv c0, iv c1, iv c2, rv b6, rv b30, iv 0, iv 0, .unset, .unset, .unset, .unset, .unset] [])) _
     refine XS.iload X37.here hx rfl (hb hby at_64) rfl ?_
     exact kt
    have G46 : ∀ t, Steps p.tables e below (T37.setTop (mkF m 72 #[iv p0, iv p1, iv p2, iv p3, iv c0, iv c1, iv c2, rv b6, rv b30, iv 0, iv 0, .unset, .unset, .unset, .unset, .unset] [(.int (0 : Int32)), (.int (0 : Int32))])) t → Steps p.tables e below (s₁.setTop (entryFrame m #[(.int p0), (.int p1), (.int p2), (.int p3)] maxLocals)) t := by
     intro t kt
     refine G45 _ ?_
     refine XS.ifNo X37.here hx rfl (hb hby at_66) rfl ((if0 _ _).trans (flt (by decide)).2.2.1) ?_
     refine XS.iconst X37.here hx rfl (hb hby at_69) ?_
     refine XS.iload X37.here hx rfl (hb hby at_70) rfl ?_
     exact kt
    have G47 : ∀ t, Steps p.tables e below (T37.setTop (mkF m 85 #[iv p0, iv p1, iv p2, iv p3, iv c0, iv c1, iv c2, rv b6, rv b30, iv 0, iv 0, iv 0, .unset, .unset, .unset, .unset] [(.int (1 : Int32)), (.int (0 : Int32))])) t → Steps p.tables e below (s₁.setTop (entryFrame m #[(.int p0), (.int p1), (.int p2), (.int p3)] maxLocals)) t := by
     intro t kt
     refine G46 _ ?_
     refine XS.icmpYes X37.here hx rfl (pc0 := 72) (pc' := 79) rfl (hb hby at_72) rfl (flt (by decide)).2.1 (by decide) (by decide) ?_
     refine XS.iconst X37.here hx rfl (hb hby at_79) ?_
     refine XS.istore X37.here hx rfl (hb hby at_80) rfl (l' := #[iv p0, iv p1, iv p2, iv p3, iv c0, iv c1, iv c2, rv b6, rv b30, iv 0, iv 0, iv 0, .unset, .unset, .unset, .unset]) rfl ?_
     refine XS.iload X37.here hx rfl (hb hby at_82) rfl ?_
     refine XS.iconst X37.here hx rfl (hb hby at_84) ?_
     exact kt
    have G48 : ∀ t, Steps p.tables e below (T37.setTop (mkF m 91 #[iv p0, iv p1, iv p2, iv p3, iv c0, iv c1, iv c2, rv b6, rv b30, iv 0, iv 0, iv 0, .unset, .unset, .unset, .unset] [(.int (0 : Int32)), (.int (1 : Int32))])) t → Steps p.tables e below (s₁.setTop (entryFrame m #[(.int p0), (.int p1), (.int p2), (.int p3)] maxLocals)) t := by
     intro t kt
     refine G47 _ ?_
     refine XS.icmpNo X37.here hx rfl (hb hby at_85) rfl (flt (by decide)).2.2.1 ?_
     refine XS.iconst X37.here hx rfl (hb hby at_88) ?_
     refine XS.iload X37.here hx rfl (hb hby at_89) rfl ?_
     exact kt
    have G49 : ∀ t, Steps p.tables e below (T37.setTop (mkF m 104 #[iv p0, iv p1, iv p2, iv p3, iv c0, iv c1, iv c2, rv b6, rv b30, iv 0, iv 0, iv 0, iv 0, .unset, .unset, .unset] [(.int (2 : Int32)), (.int (0 : Int32))])) t → Steps p.tables e below (s₁.setTop (entryFrame m #[(.int p0), (.int p1), (.int p2), (.int p3)] maxLocals)) t := by
     intro t kt
     refine G48 _ ?_
     refine XS.icmpYes X37.here hx rfl (pc0 := 91) (pc' := 98) rfl (hb hby at_91) rfl (flt (by decide)).2.1 (by decide) (by decide) ?_
     refine XS.iconst X37.here hx rfl (hb hby at_98) ?_
     refine XS.istore X37.here hx rfl (hb hby at_99) rfl (l' := #[iv p0, iv p1, iv p2, iv p3, iv c0, iv c1, iv c2, rv b6, rv b30, iv 0, iv 0, iv 0, iv 0, .unset, .unset, .unset]) rfl ?_
     refine XS.iload X37.here hx rfl (hb hby at_101) rfl ?_
     refine XS.iconst X37.here hx rfl (hb hby at_103) ?_
     exact kt
    have G50 : ∀ t, Steps p.tables e below (T37.setTop (mkF m 110 #[iv p0, iv p1, iv p2, iv p3, iv c0, iv c1, iv c2, rv b6, rv b30, iv 0, iv 0, iv 0, iv 0, .unset, .unset, .unset] [(.int (0 : Int32)), (.int (2 : Int32))])) t → Steps p.tables e below (s₁.setTop (entryFrame m #[(.int p0), (.int p1), (.int p2), (.int p3)] maxLocals)) t := by
     intro t kt
     refine G49 _ ?_
     refine XS.icmpNo X37.here hx rfl (hb hby at_104) rfl (flt (by decide)).2.2.1 ?_
     refine XS.iconst X37.here hx rfl (hb hby at_107) ?_
     refine XS.iload X37.here hx rfl (hb hby at_108) rfl ?_
     exact kt
    have G51 : ∀ t, Steps p.tables e below (T37.setTop (mkF m 124 #[iv p0, iv p1, iv p2, iv p3, iv c0, iv c1, iv c2, rv b6, rv b30, iv 0, iv 0, iv 0, iv 0, iv 0, .unset, .unset] [(.int (0 : Int32)), (.int (0 : Int32))])) t → Steps p.tables e below (s₁.setTop (entryFrame m #[(.int p0), (.int p1), (.int p2), (.int p3)] maxLocals)) t := by
     intro t kt
     refine G50 _ ?_
     refine XS.icmpYes X37.here hx rfl (pc0 := 110) (pc' := 117) rfl (hb hby at_110) rfl (flt (by decide)).2.1 (by decide) (by decide) ?_
     refine XS.iconst X37.here hx rfl (hb hby at_117) ?_
     refine XS.istore X37.here hx rfl (hb hby at_118) rfl (l' := #[iv p0, iv p1, iv p2, iv p3, iv c0, iv c1, iv c2, rv b6, rv b30, iv 0, iv 0, iv 0, iv 0, iv 0, .unset, .unset]) rfl ?_
     refine XS.iload X37.here hx rfl (hb hby at_120) rfl ?_
     refine XS.iload X37.here hx rfl (hb hby at_122) rfl ?_
     exact kt
    obtain ⟨_, _, ⟨T52, L52, k52, n52⟩, -, X52, ⟨Lc52, hQ52, l52, y52, z52⟩, st52⟩ := Jvm.LawKit.callS X37 hx (y := (⟨"com/example/wary_bearer/warybearer/http/Http1Reader", "isToken", "(Ljava/lang/String;II)Z"⟩ : MethodName)) hown (mvT hZ (hw _ (List.mem_of_getElem? (i := 35) rfl))) (mvT hZ (hw _ (List.mem_of_getElem? (i := 36) rfl))) (mvT hZ (hw _ (List.mem_of_getElem? (i := 37) rfl))) (mvT hZ (hw _ (List.mem_of_getElem? (i := 38) rfl))) (by decide) (backOf (W := 0) (rmTok0 l Z a0 hw [] b30 (0 : Int32) (0 : Int32) T37.heap n0 z41 (by decide)) hZ (hw _ (List.mem_of_getElem? (i := 38) rfl)) (hw _ (List.mem_of_getElem? (i := 37) rfl)) (by decide) (by decide)) (g := (mkF m 179 #[iv p0, iv p1, iv p2, iv p3, iv c0, iv c1, iv c2, rv b6, rv b30, iv 0, iv 0, iv 0, iv 0, iv 0, iv 0, .unset] [(.int (0 : Int32)), (.int (0 : Int32)), (.ref b30)])) rfl (by rw [hml]; rfl) (argsL := [(.ref b30), (.int (0 : Int32)), (.int (0 : Int32))]) (rest := []) (lenOf pd_15 rfl) rfl (by show 2 * 0 + _ ≤ _; exact Nat.le_of_eq rfl) (hb hby at_179) (fun _ _ => ⟨rfl, rfl, (by decide : 4 + 0 ≤ _), (by decide : 16 + 0 ≤ _)⟩)
    dsimp only [Pt.U, Pt.locs, Pt.cells, Pt.slots] at X52 l52 y52 z52 st52 hQ52
    subst l52 y52 z52
    obtain ⟨rfl, N52q, eh52⟩ := hQ52
    have N52 := Fr.app N37 N52q
    have G53 : ∀ t, Steps p.tables e below (T52.setTop (mkF m 188 #[iv p0, iv p1, iv p2, iv p3, iv c0, iv c1, iv c2, rv b6, rv b30, iv 0, iv 0, iv 0, iv 0, iv 0, iv 0, iv 0] [(.int (0 : Int32)), (.int (0 : Int32))])) t → Steps p.tables e below (s₁.setTop (entryFrame m #[(.int p0), (.int p1), (.int p2), (.int p3)] maxLocals)) t := by
     intro t kt
     refine G51 _ ?_
     refine XS.icmpYes X37.here hx rfl (pc0 := 124) (pc' := 170) rfl (hb hby at_124) rfl (flt (by decide)).2.1 (by decide) (by decide) ?_
     refine XS.iconst X37.here hx rfl (hb hby at_170) ?_
     show Steps p.tables e below (T37.setTop (mkF m 171 #[iv p0, iv p1, iv p2, iv p3, iv c0, iv c1, iv c2, rv b6, rv b30, iv 0, iv 0, iv 0, iv 0, iv 0, .unset, .unset] [(.int (0 : Int32))])) _
     refine XS.istore X37.here hx rfl (hb hby at_171) rfl (l' := #[iv p0, iv p1, iv p2, iv p3, iv c0, iv c1, iv c2, rv b6, rv b30, iv 0, iv 0, iv 0, iv 0, iv 0, iv 0, .unset]) rfl ?_
     refine XS.aload X37.here hx rfl (hb hby at_173) rfl rfl ?_
     refine XS.iload X37.here hx rfl (hb hby at_175) rfl ?_
     refine XS.iload X37.here hx rfl (hb hby at_177) rfl ?_
     refine st52 _ ?_
     refine XS.istore X52.here hx rfl (hb hby at_182) rfl (l' := #[iv p0, iv p1, iv p2, iv p3, iv c0, iv c1, iv c2, rv b6, rv b30, iv 0, iv 0, iv 0, iv 0, iv 0, iv 0, iv 0]) rfl ?_
     refine XS.iload X52.here hx rfl (hb hby at_184) rfl ?_
     refine XS.iload X52.here hx rfl (hb hby at_186) rfl ?_
     exact kt
    obtain ⟨fs, hr, hrun, hended, hW, hsame⟩ := X52.leave (v := some (.int (1 : Int32))) (fun h => by rw [Bd.returns] at h; cases h)
    refine ⟨_, _, G53 _ ?_, hrun, hended, _, _, rfl, ?_, ⟨_, rfl⟩, hW, hsame.mono (by decide) (by decide)⟩
    ·skip
     refine XS.icmpNo X52.here hx rfl (hb hby at_188) rfl (teq (by decide)).2 ?_
     refine XS.iconst X52.here hx rfl (hb hby at_191) ?_
     refine XS.goto X52.here hx rfl (pc0 := 192) (pc' := 196) rfl (hb hby at_192) (by decide) (by decide) ?_
     exact retN X52 hx (t := .boolean) Bd.returns (by simp) (hb hby at_196) hr
    ·show Q0 Z p0 p1 p2 p3 tt ct cst fv h0 n0 _ T52.heap _
     rw [eh52]
     exact ⟨rfl, N52⟩
   ·skip
    have G54 : ∀ t, Steps p.tables e below (T37.setTop (mkF m 66 #[iv p0, iv p1, iv p2, iv p3, iv c0, iv c1, iv c2, rv b6, rv b30, iv 0, iv 1, .unset, .unset, .unset, .unset, .unset] [(.int (0 : Int32))])) t → Steps p.tables e below (s₁.setTop (entryFrame m #[(.int p0), (.int p1), (.int p2), (.int p3)] maxLocals)) t := by
     intro t kt
     refine G44 _ ?_
     show Steps p.tables e below (T37.setTop (mkF m 64 #[iv p0, iv p1, iv p2, iv p3, iv c0, iv c1, iv c2, rv b6, rv b30, iv 0, iv 1, .unset, .unset, .unset, .unset, .unset] [])) _
     refine XS.iload X37.here hx rfl (hb hby at_64) rfl ?_
     exact kt
    have G55 : ∀ t, Steps p.tables e below (T37.setTop (mkF m 72 #[iv p0, iv p1, iv p2, iv p3, iv c0, iv c1, iv c2, rv b6, rv b30, iv 0, iv 1, .unset, .unset, .unset, .unset, .unset] [(.int (1 : Int32)), (.int (0 : Int32))])) t → Steps p.tables e below (s₁.setTop (entryFrame m #[(.int p0), (.int p1), (.int p2), (.int p3)] maxLocals)) t := by
     intro t kt
     refine G54 _ ?_
     refine XS.ifNo X37.here hx rfl (hb hby at_66) rfl ((if0 _ _).trans (flt (by decide)).2.2.1) ?_
     refine XS.iconst X37.here hx rfl (hb hby at_69) ?_
     refine XS.iload X37.here hx rfl (hb hby at_70) rfl ?_
     exact kt
    have G56 : ∀ t, Steps p.tables e below (T37.setTop (mkF m 85 #[iv p0, iv p1, iv p2, iv p3, iv c0, iv c1, iv c2, rv b6, rv b30, iv 0, iv 1, iv 1, .unset, .unset, .unset, .unset] [(.int (1 : Int32)), (.int (0 : Int32))])) t → Steps p.tables e below (s₁.setTop (entryFrame m #[(.int p0), (.int p1), (.int p2), (.int p3)] maxLocals)) t := by
     intro t kt
     refine G55 _ ?_
     refine XS.icmpNo X37.here hx rfl (hb hby at_72) rfl (tlt (by decide)).2.1 ?_
     refine XS.iconst X37.here hx rfl (hb hby at_75) ?_
     refine XS.goto X37.here hx rfl (pc0 := 76) (pc' := 80) rfl (hb hby at_76) (by decide) (by decide) ?_
     refine XS.istore X37.here hx rfl (hb hby at_80) rfl (l' := #[iv p0, iv p1, iv p2, iv p3, iv c0, iv c1, iv c2, rv b6, rv b30, iv 0, iv 1, iv 1, .unset, .unset, .unset, .unset]) rfl ?_
     refine XS.iload X37.here hx rfl (hb hby at_82) rfl ?_
     refine XS.iconst X37.here hx rfl (hb hby at_84) ?_
     exact kt
    have G57 : ∀ t, Steps p.tables e below (T37.setTop (mkF m 91 #[iv p0, iv p1, iv p2, iv p3, iv c0, iv c1, iv c2, rv b6, rv b30, iv 0, iv 1, iv 1, .unset, .unset, .unset, .unset] [(.int (1 : Int32)), (.int (1 : Int32))])) t → Steps p.tables e below (s₁.setTop (entryFrame m #[(.int p0), (.int p1), (.int p2), (.int p3)] maxLocals)) t := by
     intro t kt
     refine G56 _ ?_
     refine XS.icmpNo X37.here hx rfl (hb hby at_85) rfl (flt (by decide)).2.2.1 ?_
     refine XS.iconst X37.here hx rfl (hb hby at_88) ?_
     refine XS.iload X37.here hx rfl (hb hby at_89) rfl ?_
     exact kt
    have G58 : ∀ t, Steps p.tables e below (T37.setTop (mkF m 104 #[iv p0, iv p1, iv p2, iv p3, iv c0, iv c1, iv c2, rv b6, rv b30, iv 0, iv 1, iv 1, iv 0, .unset, .unset, .unset] [(.int (2 : Int32)), (.int (0 : Int32))])) t → Steps p.tables e below (s₁.setTop (entryFrame m #[(.int p0), (.int p1), (.int p2), (.int p3)] maxLocals)) t := by
     intro t kt
     refine G57 _ ?_
     refine XS.icmpYes X37.here hx rfl (pc0 := 91) (pc' := 98) rfl (hb hby at_91) rfl (flt (by decide)).2.1 (by decide) (by decide) ?_
     refine XS.iconst X37.here hx rfl (hb hby at_98) ?_
     refine XS.istore X37.here hx rfl (hb hby at_99) rfl (l' := #[iv p0, iv p1, iv p2, iv p3, iv c0, iv c1, iv c2, rv b6, rv b30, iv 0, iv 1, iv 1, iv 0, .unset, .unset, .unset]) rfl ?_
     refine XS.iload X37.here hx rfl (hb hby at_101) rfl ?_
     refine XS.iconst X37.here hx rfl (hb hby at_103) ?_
     exact kt
    have G59 : ∀ t, Steps p.tables e below (T37.setTop (mkF m 110 #[iv p0, iv p1, iv p2, iv p3, iv c0, iv c1, iv c2, rv b6, rv b30, iv 0, iv 1, iv 1, iv 0, .unset, .unset, .unset] [(.int (1 : Int32)), (.int (2 : Int32))])) t → Steps p.tables e below (s₁.setTop (entryFrame m #[(.int p0), (.int p1), (.int p2), (.int p3)] maxLocals)) t := by
     intro t kt
     refine G58 _ ?_
     refine XS.icmpNo X37.here hx rfl (hb hby at_104) rfl (flt (by decide)).2.2.1 ?_
     refine XS.iconst X37.here hx rfl (hb hby at_107) ?_
     refine XS.iload X37.here hx rfl (hb hby at_108) rfl ?_
     exact kt
    have G60 : ∀ t, Steps p.tables e below (T37.setTop (mkF m 124 #[iv p0, iv p1, iv p2, iv p3, iv c0, iv c1, iv c2, rv b6, rv b30, iv 0, iv 1, iv 1, iv 0, iv 0, .unset, .unset] [(.int (1 : Int32)), (.int (0 : Int32))])) t → Steps p.tables e below (s₁.setTop (entryFrame m #[(.int p0), (.int p1), (.int p2), (.int p3)] maxLocals)) t := by
     intro t kt
     refine G59 _ ?_
     refine XS.icmpYes X37.here hx rfl (pc0 := 110) (pc' := 117) rfl (hb hby at_110) rfl (flt (by decide)).2.1 (by decide) (by decide) ?_
     refine XS.iconst X37.here hx rfl (hb hby at_117) ?_
     refine XS.istore X37.here hx rfl (hb hby at_118) rfl (l' := #[iv p0, iv p1, iv p2, iv p3, iv c0, iv c1, iv c2, rv b6, rv b30, iv 0, iv 1, iv 1, iv 0, iv 0, .unset, .unset]) rfl ?_
     refine XS.iload X37.here hx rfl (hb hby at_120) rfl ?_
     refine XS.iload X37.here hx rfl (hb hby at_122) rfl ?_
     exact kt
    have G61 : ∀ t, Steps p.tables e below (T37.setTop (mkF m 129 #[iv p0, iv p1, iv p2, iv p3, iv c0, iv c1, iv c2, rv b6, rv b30, iv 0, iv 1, iv 1, iv 0, iv 0, .unset, .unset] [(.int (1 : Int32))])) t → Steps p.tables e below (s₁.setTop (entryFrame m #[(.int p0), (.int p1), (.int p2), (.int p3)] maxLocals)) t := by
     intro t kt
     refine G60 _ ?_
     refine XS.icmpNo X37.here hx rfl (hb hby at_124) rfl (tlt (by decide)).2.1 ?_
     show Steps p.tables e below (T37.setTop (mkF m 127 #[iv p0, iv p1, iv p2, iv p3, iv c0, iv c1, iv c2, rv b6, rv b30, iv 0, iv 1, iv 1, iv 0, iv 0, .unset, .unset] [])) _
     refine XS.iload X37.here hx rfl (hb hby at_127) rfl ?_
     exact kt
    obtain ⟨_, _, ⟨T62, L62, k62, n62⟩, -, X62, ⟨Lc62, hQ62, l62, y62, z62⟩, st62⟩ := Jvm.LawKit.callS X37 hx (y := (⟨"com/example/wary_bearer/warybearer/http/Http1ReaderIsTokenPinLaw", "isT", "(C)Z"⟩ : MethodName)) hown (mvT hZ (hw _ (List.mem_of_getElem? (i := 59) rfl))) (mvT hZ (hw _ (List.mem_of_getElem? (i := 60) rfl))) (mvT hZ (hw _ (List.mem_of_getElem? (i := 2) rfl))) (mvT hZ (hw _ (List.mem_of_getElem? (i := 61) rfl))) (by decide) (backOf (W := 0) (rm14 l Z a0 hw [] c0  T37.heap n0 z41 ) hZ (hw _ (List.mem_of_getElem? (i := 61) rfl)) (hw _ (List.mem_of_getElem? (i := 2) rfl)) (by decide) (by decide)) (g := (mkF m 134 #[iv p0, iv p1, iv p2, iv p3, iv c0, iv c1, iv c2, rv b6, rv b30, iv 0, iv 1, iv 1, iv 0, iv 0, .unset, .unset] [(.int c0)])) rfl (by rw [hml]; rfl) (argsL := [(.int c0)]) (rest := []) (lenOf pd_16 rfl) rfl (by show 2 * 0 + _ ≤ _; exact Nat.le_of_eq rfl) (hb hby at_134) (fun _ _ => ⟨rfl, rfl, (by decide : 4 + 0 ≤ _), (by decide : 16 + 0 ≤ _)⟩)
    dsimp only [Pt.U, Pt.locs, Pt.cells, Pt.slots] at X62 l62 y62 z62 st62 hQ62
    subst l62 y62 z62
    obtain ⟨rfl, N62q, eh62⟩ := hQ62
    have N62 := Fr.app N37 N62q
    have G63 : ∀ t, Steps p.tables e below (T62.setTop (mkF m 137 #[iv p0, iv p1, iv p2, iv p3, iv c0, iv c1, iv c2, rv b6, rv b30, iv 0, iv 1, iv 1, iv 0, iv 0, .unset, .unset] [(.int (fisT c0))])) t → Steps p.tables e below (s₁.setTop (entryFrame m #[(.int p0), (.int p1), (.int p2), (.int p3)] maxLocals)) t := by
     intro t kt
     refine G61 _ ?_
     refine XS.ifNo X37.here hx rfl (hb hby at_129) rfl ((if0 _ _).trans (feq (by decide)).1) ?_
     refine XS.iload X37.here hx rfl (hb hby at_132) rfl ?_
     refine st62 _ ?_
     exact kt
    by_cases hc137_64 : (fisT c0) = (0 : Int32)
    ·skip
     obtain ⟨_, _, ⟨T65, L65, k65, n65⟩, -, X65, ⟨Lc65, hQ65, l65, y65, z65⟩, st65⟩ := Jvm.LawKit.callS X62 hx (y := (⟨"com/example/wary_bearer/warybearer/http/Http1Reader", "isToken", "(Ljava/lang/String;II)Z"⟩ : MethodName)) hown (mvT hZ (hw _ (List.mem_of_getElem? (i := 35) rfl))) (mvT hZ (hw _ (List.mem_of_getElem? (i := 36) rfl))) (mvT hZ (hw _ (List.mem_of_getElem? (i := 37) rfl))) (mvT hZ (hw _ (List.mem_of_getElem? (i := 38) rfl))) (by decide) (backOf (W := 0) (rmTokL01 l Z a0 hw [] b30 c0 c1 c2 ta37 kb37 tt ct cst fv T37.heap n0 z41 A37 Fc37 Fv37 V37 fa38 hb0 hb1 hb2 hq37.1 hq37.2.1 hq37.2.2 TS TA TS2 TV SS) hZ (hw _ (List.mem_of_getElem? (i := 38) rfl)) (hw _ (List.mem_of_getElem? (i := 37) rfl)) (by decide) (by decide)) (g := (mkF m 179 #[iv p0, iv p1, iv p2, iv p3, iv c0, iv c1, iv c2, rv b6, rv b30, iv 0, iv 1, iv 1, iv 0, iv 0, iv 0, .unset] [(.int (1 : Int32)), (.int (0 : Int32)), (.ref b30)])) rfl (by rw [hml]; rfl) (argsL := [(.ref b30), (.int (0 : Int32)), (.int (1 : Int32))]) (rest := []) (lenOf pd_15 rfl) rfl (by show 2 * 0 + _ ≤ _; exact Nat.le_of_eq rfl) (hb hby at_179) (fun _ _ => ⟨rfl, eh62, (by decide : 4 + 0 ≤ _), (by decide : 16 + 0 ≤ _)⟩)
     dsimp only [Pt.U, Pt.locs, Pt.cells, Pt.slots] at X65 l65 y65 z65 st65 hQ65
     subst l65 y65 z65
     obtain ⟨rfl, N65q, eh65⟩ := hQ65
     have N65 := Fr.app N62 N65q
     have G66 : ∀ t, Steps p.tables e below (T65.setTop (mkF m 188 #[iv p0, iv p1, iv p2, iv p3, iv c0, iv c1, iv c2, rv b6, rv b30, iv 0, iv 1, iv 1, iv 0, iv 0, iv 0, iv (own_tok [c0])] [(.int (0 : Int32)), (.int (own_tok [c0]))])) t → Steps p.tables e below (s₁.setTop (entryFrame m #[(.int p0), (.int p1), (.int p2), (.int p3)] maxLocals)) t := by
      intro t kt
      refine G63 _ ?_
      refine XS.ifYes X62.here hx rfl (pc0 := 137) (pc' := 170) rfl (hb hby at_137) rfl ((if0 _ _).trans (teq hc137_64).1) (by decide) (by decide) ?_
      refine XS.iconst X62.here hx rfl (hb hby at_170) ?_
      refine XS.istore X62.here hx rfl (hb hby at_171) rfl (l' := #[iv p0, iv p1, iv p2, iv p3, iv c0, iv c1, iv c2, rv b6, rv b30, iv 0, iv 1, iv 1, iv 0, iv 0, iv 0, .unset]) rfl ?_
      refine XS.aload X62.here hx rfl (hb hby at_173) rfl rfl ?_
      refine XS.iload X62.here hx rfl (hb hby at_175) rfl ?_
      refine XS.iload X62.here hx rfl (hb hby at_177) rfl ?_
      refine st65 _ ?_
      refine XS.istore X65.here hx rfl (hb hby at_182) rfl (l' := #[iv p0, iv p1, iv p2, iv p3, iv c0, iv c1, iv c2, rv b6, rv b30, iv 0, iv 1, iv 1, iv 0, iv 0, iv 0, iv (own_tok [c0])]) rfl ?_
      refine XS.iload X65.here hx rfl (hb hby at_184) rfl ?_
      refine XS.iload X65.here hx rfl (hb hby at_186) rfl ?_
      exact kt
     have hc188_67 : (own_tok [c0]) = (0 : Int32) := by rw [own_tok, if_pos hc137_64]
     obtain ⟨fs, hr, hrun, hended, hW, hsame⟩ := X65.leave (v := some (.int (1 : Int32))) (fun h => by rw [Bd.returns] at h; cases h)
     refine ⟨_, _, G66 _ ?_, hrun, hended, _, _, rfl, ?_, ⟨_, rfl⟩, hW, hsame.mono (by decide) (by decide)⟩
     ·skip
      refine XS.icmpNo X65.here hx rfl (hb hby at_188) rfl (teq hc188_67).2 ?_
      refine XS.iconst X65.here hx rfl (hb hby at_191) ?_
      refine XS.goto X65.here hx rfl (pc0 := 192) (pc' := 196) rfl (hb hby at_192) (by decide) (by decide) ?_
      exact retN X65 hx (t := .boolean) Bd.returns (by simp) (hb hby at_196) hr
     ·show Q0 Z p0 p1 p2 p3 tt ct cst fv h0 n0 _ T65.heap _
      rw [eh65]
      exact ⟨rfl, N65⟩
    ·skip
     have G68 : ∀ t, Steps p.tables e below (T62.setTop (mkF m 142 #[iv p0, iv p1, iv p2, iv p3, iv c0, iv c1, iv c2, rv b6, rv b30, iv 0, iv 1, iv 1, iv 0, iv 0, .unset, .unset] [(.int (0 : Int32))])) t → Steps p.tables e below (s₁.setTop (entryFrame m #[(.int p0), (.int p1), (.int p2), (.int p3)] maxLocals)) t := by
      intro t kt
      refine G63 _ ?_
      refine XS.ifNo X62.here hx rfl (hb hby at_137) rfl ((if0 _ _).trans (feq hc137_64).1) ?_
      refine XS.iload X62.here hx rfl (hb hby at_140) rfl ?_
      exact kt
     have G69 : ∀ t, Steps p.tables e below (T62.setTop (mkF m 155 #[iv p0, iv p1, iv p2, iv p3, iv c0, iv c1, iv c2, rv b6, rv b30, iv 0, iv 1, iv 1, iv 0, iv 0, .unset, .unset] [(.int (0 : Int32))])) t → Steps p.tables e below (s₁.setTop (entryFrame m #[(.int p0), (.int p1), (.int p2), (.int p3)] maxLocals)) t := by
      intro t kt
      refine G68 _ ?_
      refine XS.ifYes X62.here hx rfl (pc0 := 142) (pc' := 153) rfl (hb hby at_142) rfl ((if0 _ _).trans (teq (by decide)).1) (by decide) (by decide) ?_
      refine XS.iload X62.here hx rfl (hb hby at_153) rfl ?_
      exact kt
     obtain ⟨_, _, ⟨T70, L70, k70, n70⟩, -, X70, ⟨Lc70, hQ70, l70, y70, z70⟩, st70⟩ := Jvm.LawKit.callS X62 hx (y := (⟨"com/example/wary_bearer/warybearer/http/Http1Reader", "isToken", "(Ljava/lang/String;II)Z"⟩ : MethodName)) hown (mvT hZ (hw _ (List.mem_of_getElem? (i := 35) rfl))) (mvT hZ (hw _ (List.mem_of_getElem? (i := 36) rfl))) (mvT hZ (hw _ (List.mem_of_getElem? (i := 37) rfl))) (mvT hZ (hw _ (List.mem_of_getElem? (i := 38) rfl))) (by decide) (backOf (W := 0) (rmTokL01 l Z a0 hw [] b30 c0 c1 c2 ta37 kb37 tt ct cst fv T37.heap n0 z41 A37 Fc37 Fv37 V37 fa38 hb0 hb1 hb2 hq37.1 hq37.2.1 hq37.2.2 TS TA TS2 TV SS) hZ (hw _ (List.mem_of_getElem? (i := 38) rfl)) (hw _ (List.mem_of_getElem? (i := 37) rfl)) (by decide) (by decide)) (g := (mkF m 179 #[iv p0, iv p1, iv p2, iv p3, iv c0, iv c1, iv c2, rv b6, rv b30, iv 0, iv 1, iv 1, iv 0, iv 0, iv 1, .unset] [(.int (1 : Int32)), (.int (0 : Int32)), (.ref b30)])) rfl (by rw [hml]; rfl) (argsL := [(.ref b30), (.int (0 : Int32)), (.int (1 : Int32))]) (rest := []) (lenOf pd_15 rfl) rfl (by show 2 * 0 + _ ≤ _; exact Nat.le_of_eq rfl) (hb hby at_179) (fun _ _ => ⟨rfl, eh62, (by decide : 4 + 0 ≤ _), (by decide : 16 + 0 ≤ _)⟩)
     dsimp only [Pt.U, Pt.locs, Pt.cells, Pt.slots] at X70 l70 y70 z70 st70 hQ70
     subst l70 y70 z70
     obtain ⟨rfl, N70q, eh70⟩ := hQ70
     have N70 := Fr.app N62 N70q
     have G71 : ∀ t, Steps p.tables e below (T70.setTop (mkF m 188 #[iv p0, iv p1, iv p2, iv p3, iv c0, iv c1, iv c2, rv b6, rv b30, iv 0, iv 1, iv 1, iv 0, iv 0, iv 1, iv (own_tok [c0])] [(.int (1 : Int32)), (.int (own_tok [c0]))])) t → Steps p.tables e below (s₁.setTop (entryFrame m #[(.int p0), (.int p1), (.int p2), (.int p3)] maxLocals)) t := by
      intro t kt
      refine G69 _ ?_
      refine XS.ifYes X62.here hx rfl (pc0 := 155) (pc' := 166) rfl (hb hby at_155) rfl ((if0 _ _).trans (teq (by decide)).1) (by decide) (by decide) ?_
      refine XS.iconst X62.here hx rfl (hb hby at_166) ?_
      refine XS.goto X62.here hx rfl (pc0 := 167) (pc' := 171) rfl (hb hby at_167) (by decide) (by decide) ?_
      refine XS.istore X62.here hx rfl (hb hby at_171) rfl (l' := #[iv p0, iv p1, iv p2, iv p3, iv c0, iv c1, iv c2, rv b6, rv b30, iv 0, iv 1, iv 1, iv 0, iv 0, iv 1, .unset]) rfl ?_
      refine XS.aload X62.here hx rfl (hb hby at_173) rfl rfl ?_
      refine XS.iload X62.here hx rfl (hb hby at_175) rfl ?_
      refine XS.iload X62.here hx rfl (hb hby at_177) rfl ?_
      refine st70 _ ?_
      refine XS.istore X70.here hx rfl (hb hby at_182) rfl (l' := #[iv p0, iv p1, iv p2, iv p3, iv c0, iv c1, iv c2, rv b6, rv b30, iv 0, iv 1, iv 1, iv 0, iv 0, iv 1, iv (own_tok [c0])]) rfl ?_
      refine XS.iload X70.here hx rfl (hb hby at_184) rfl ?_
      refine XS.iload X70.here hx rfl (hb hby at_186) rfl ?_
      exact kt
     have hc188_72 : (own_tok [c0]) = (1 : Int32) := by rw [own_tok, if_neg hc137_64, own_tok]
     obtain ⟨fs, hr, hrun, hended, hW, hsame⟩ := X70.leave (v := some (.int (1 : Int32))) (fun h => by rw [Bd.returns] at h; cases h)
     refine ⟨_, _, G71 _ ?_, hrun, hended, _, _, rfl, ?_, ⟨_, rfl⟩, hW, hsame.mono (by decide) (by decide)⟩
     ·skip
      refine XS.icmpNo X70.here hx rfl (hb hby at_188) rfl (teq hc188_72).2 ?_
      refine XS.iconst X70.here hx rfl (hb hby at_191) ?_
      refine XS.goto X70.here hx rfl (pc0 := 192) (pc' := 196) rfl (hb hby at_192) (by decide) (by decide) ?_
      exact retN X70 hx (t := .boolean) Bd.returns (by simp) (hb hby at_196) hr
     ·show Q0 Z p0 p1 p2 p3 tt ct cst fv h0 n0 _ T70.heap _
      rw [eh70]
      exact ⟨rfl, N70⟩
   ·skip
    have G73 : ∀ t, Steps p.tables e below (T37.setTop (mkF m 66 #[iv p0, iv p1, iv p2, iv p3, iv c0, iv c1, iv c2, rv b6, rv b30, iv 0, iv 2, .unset, .unset, .unset, .unset, .unset] [(.int (0 : Int32))])) t → Steps p.tables e below (s₁.setTop (entryFrame m #[(.int p0), (.int p1), (.int p2), (.int p3)] maxLocals)) t := by
     intro t kt
     refine G44 _ ?_
     show Steps p.tables e below (T37.setTop (mkF m 64 #[iv p0, iv p1, iv p2, iv p3, iv c0, iv c1, iv c2, rv b6, rv b30, iv 0, iv 2, .unset, .unset, .unset, .unset, .unset] [])) _
     refine XS.iload X37.here hx rfl (hb hby at_64) rfl ?_
     exact kt
    have G74 : ∀ t, Steps p.tables e below (T37.setTop (mkF m 72 #[iv p0, iv p1, iv p2, iv p3, iv c0, iv c1, iv c2, rv b6, rv b30, iv 0, iv 2, .unset, .unset, .unset, .unset, .unset] [(.int (2 : Int32)), (.int (0 : Int32))])) t → Steps p.tables e below (s₁.setTop (entryFrame m #[(.int p0), (.int p1), (.int p2), (.int p3)] maxLocals)) t := by
     intro t kt
     refine G73 _ ?_
     refine XS.ifNo X37.here hx rfl (hb hby at_66) rfl ((if0 _ _).trans (flt (by decide)).2.2.1) ?_
     refine XS.iconst X37.here hx rfl (hb hby at_69) ?_
     refine XS.iload X37.here hx rfl (hb hby at_70) rfl ?_
     exact kt
    have G75 : ∀ t, Steps p.tables e below (T37.setTop (mkF m 85 #[iv p0, iv p1, iv p2, iv p3, iv c0, iv c1, iv c2, rv b6, rv b30, iv 0, iv 2, iv 1, .unset, .unset, .unset, .unset] [(.int (1 : Int32)), (.int (0 : Int32))])) t → Steps p.tables e below (s₁.setTop (entryFrame m #[(.int p0), (.int p1), (.int p2), (.int p3)] maxLocals)) t := by
     intro t kt
     refine G74 _ ?_
     refine XS.icmpNo X37.here hx rfl (hb hby at_72) rfl (tlt (by decide)).2.1 ?_
     refine XS.iconst X37.here hx rfl (hb hby at_75) ?_
     refine XS.goto X37.here hx rfl (pc0 := 76) (pc' := 80) rfl (hb hby at_76) (by decide) (by decide) ?_
     refine XS.istore X37.here hx rfl (hb hby at_80) rfl (l' := #[iv p0, iv p1, iv p2, iv p3, iv c0, iv c1, iv c2, rv b6, rv b30, iv 0, iv 2, iv 1, .unset, .unset, .unset, .unset]) rfl ?_
     refine XS.iload X37.here hx rfl (hb hby at_82) rfl ?_
     refine XS.iconst X37.here hx rfl (hb hby at_84) ?_
     exact kt
    have G76 : ∀ t, Steps p.tables e below (T37.setTop (mkF m 91 #[iv p0, iv p1, iv p2, iv p3, iv c0, iv c1, iv c2, rv b6, rv b30, iv 0, iv 2, iv 1, .unset, .unset, .unset, .unset] [(.int (2 : Int32)), (.int (1 : Int32))])) t → Steps p.tables e below (s₁.setTop (entryFrame m #[(.int p0), (.int p1), (.int p2), (.int p3)] maxLocals)) t := by
     intro t kt
     refine G75 _ ?_
     refine XS.icmpNo X37.here hx rfl (hb hby at_85) rfl (flt (by decide)).2.2.1 ?_
     refine XS.iconst X37.here hx rfl (hb hby at_88) ?_
     refine XS.iload X37.here hx rfl (hb hby at_89) rfl ?_
     exact kt
    have G77 : ∀ t, Steps p.tables e below (T37.setTop (mkF m 104 #[iv p0, iv p1, iv p2, iv p3, iv c0, iv c1, iv c2, rv b6, rv b30, iv 0, iv 2, iv 1, iv 1, .unset, .unset, .unset] [(.int (2 : Int32)), (.int (0 : Int32))])) t → Steps p.tables e below (s₁.setTop (entryFrame m #[(.int p0), (.int p1), (.int p2), (.int p3)] maxLocals)) t := by
     intro t kt
     refine G76 _ ?_
     refine XS.icmpNo X37.here hx rfl (hb hby at_91) rfl (tlt (by decide)).2.1 ?_
     refine XS.iconst X37.here hx rfl (hb hby at_94) ?_
     refine XS.goto X37.here hx rfl (pc0 := 95) (pc' := 99) rfl (hb hby at_95) (by decide) (by decide) ?_
     refine XS.istore X37.here hx rfl (hb hby at_99) rfl (l' := #[iv p0, iv p1, iv p2, iv p3, iv c0, iv c1, iv c2, rv b6, rv b30, iv 0, iv 2, iv 1, iv 1, .unset, .unset, .unset]) rfl ?_
     refine XS.iload X37.here hx rfl (hb hby at_101) rfl ?_
     refine XS.iconst X37.here hx rfl (hb hby at_103) ?_
     exact kt
    have G78 : ∀ t, Steps p.tables e below (T37.setTop (mkF m 110 #[iv p0, iv p1, iv p2, iv p3, iv c0, iv c1, iv c2, rv b6, rv b30, iv 0, iv 2, iv 1, iv 1, .unset, .unset, .unset] [(.int (2 : Int32)), (.int (2 : Int32))])) t → Steps p.tables e below (s₁.setTop (entryFrame m #[(.int p0), (.int p1), (.int p2), (.int p3)] maxLocals)) t := by
     intro t kt
     refine G77 _ ?_
     refine XS.icmpNo X37.here hx rfl (hb hby at_104) rfl (flt (by decide)).2.2.1 ?_
     refine XS.iconst X37.here hx rfl (hb hby at_107) ?_
     refine XS.iload X37.here hx rfl (hb hby at_108) rfl ?_
     exact kt
    have G79 : ∀ t, Steps p.tables e below (T37.setTop (mkF m 124 #[iv p0, iv p1, iv p2, iv p3, iv c0, iv c1, iv c2, rv b6, rv b30, iv 0, iv 2, iv 1, iv 1, iv 0, .unset, .unset] [(.int (2 : Int32)), (.int (0 : Int32))])) t → Steps p.tables e below (s₁.setTop (entryFrame m #[(.int p0), (.int p1), (.int p2), (.int p3)] maxLocals)) t := by
     intro t kt
     refine G78 _ ?_
     refine XS.icmpYes X37.here hx rfl (pc0 := 110) (pc' := 117) rfl (hb hby at_110) rfl (flt (by decide)).2.1 (by decide) (by decide) ?_
     refine XS.iconst X37.here hx rfl (hb hby at_117) ?_
     refine XS.istore X37.here hx rfl (hb hby at_118) rfl (l' := #[iv p0, iv p1, iv p2, iv p3, iv c0, iv c1, iv c2, rv b6, rv b30, iv 0, iv 2, iv 1, iv 1, iv 0, .unset, .unset]) rfl ?_
     refine XS.iload X37.here hx rfl (hb hby at_120) rfl ?_
     show Steps p.tables e below (T37.setTop (mkF m 122 #[iv p0, iv p1, iv p2, iv p3, iv c0, iv c1, iv c2, rv b6, rv b30, iv 0, iv 2, iv 1, iv 1, iv 0, .unset, .unset] [(.int (0 : Int32))])) _
     refine XS.iload X37.here hx rfl (hb hby at_122) rfl ?_
     exact kt
    have G80 : ∀ t, Steps p.tables e below (T37.setTop (mkF m 129 #[iv p0, iv p1, iv p2, iv p3, iv c0, iv c1, iv c2, rv b6, rv b30, iv 0, iv 2, iv 1, iv 1, iv 0, .unset, .unset] [(.int (1 : Int32))])) t → Steps p.tables e below (s₁.setTop (entryFrame m #[(.int p0), (.int p1), (.int p2), (.int p3)] maxLocals)) t := by
     intro t kt
     refine G79 _ ?_
     refine XS.icmpNo X37.here hx rfl (hb hby at_124) rfl (tlt (by decide)).2.1 ?_
     refine XS.iload X37.here hx rfl (hb hby at_127) rfl ?_
     exact kt
    obtain ⟨_, _, ⟨T81, L81, k81, n81⟩, -, X81, ⟨Lc81, hQ81, l81, y81, z81⟩, st81⟩ := Jvm.LawKit.callS X37 hx (y := (⟨"com/example/wary_bearer/warybearer/http/Http1ReaderIsTokenPinLaw", "isT", "(C)Z"⟩ : MethodName)) hown (mvT hZ (hw _ (List.mem_of_getElem? (i := 59) rfl))) (mvT hZ (hw _ (List.mem_of_getElem? (i := 60) rfl))) (mvT hZ (hw _ (List.mem_of_getElem? (i := 2) rfl))) (mvT hZ (hw _ (List.mem_of_getElem? (i := 61) rfl))) (by decide) (backOf (W := 0) (rm14 l Z a0 hw [] c0  T37.heap n0 z41 ) hZ (hw _ (List.mem_of_getElem? (i := 61) rfl)) (hw _ (List.mem_of_getElem? (i := 2) rfl)) (by decide) (by decide)) (g := (mkF m 134 #[iv p0, iv p1, iv p2, iv p3, iv c0, iv c1, iv c2, rv b6, rv b30, iv 0, iv 2, iv 1, iv 1, iv 0, .unset, .unset] [(.int c0)])) rfl (by rw [hml]; rfl) (argsL := [(.int c0)]) (rest := []) (lenOf pd_16 rfl) rfl (by show 2 * 0 + _ ≤ _; exact Nat.le_of_eq rfl) (hb hby at_134) (fun _ _ => ⟨rfl, rfl, (by decide : 4 + 0 ≤ _), (by decide : 16 + 0 ≤ _)⟩)
    dsimp only [Pt.U, Pt.locs, Pt.cells, Pt.slots] at X81 l81 y81 z81 st81 hQ81
    subst l81 y81 z81
    obtain ⟨rfl, N81q, eh81⟩ := hQ81
    have N81 := Fr.app N37 N81q
    have G82 : ∀ t, Steps p.tables e below (T81.setTop (mkF m 137 #[iv p0, iv p1, iv p2, iv p3, iv c0, iv c1, iv c2, rv b6, rv b30, iv 0, iv 2, iv 1, iv 1, iv 0, .unset, .unset] [(.int (fisT c0))])) t → Steps p.tables e below (s₁.setTop (entryFrame m #[(.int p0), (.int p1), (.int p2), (.int p3)] maxLocals)) t := by
     intro t kt
     refine G80 _ ?_
     refine XS.ifNo X37.here hx rfl (hb hby at_129) rfl ((if0 _ _).trans (feq (by decide)).1) ?_
     refine XS.iload X37.here hx rfl (hb hby at_132) rfl ?_
     refine st81 _ ?_
     exact kt
    by_cases hc137_83 : (fisT c0) = (0 : Int32)
    ·skip
     obtain ⟨_, _, ⟨T84, L84, k84, n84⟩, -, X84, ⟨Lc84, hQ84, l84, y84, z84⟩, st84⟩ := Jvm.LawKit.callS X81 hx (y := (⟨"com/example/wary_bearer/warybearer/http/Http1Reader", "isToken", "(Ljava/lang/String;II)Z"⟩ : MethodName)) hown (mvT hZ (hw _ (List.mem_of_getElem? (i := 35) rfl))) (mvT hZ (hw _ (List.mem_of_getElem? (i := 36) rfl))) (mvT hZ (hw _ (List.mem_of_getElem? (i := 37) rfl))) (mvT hZ (hw _ (List.mem_of_getElem? (i := 38) rfl))) (by decide) (backOf (W := 0) (rmTokL02 l Z a0 hw [] b30 c0 c1 c2 ta37 kb37 tt ct cst fv T37.heap n0 z41 A37 Fc37 Fv37 V37 fa38 hb0 hb1 hb2 hq37.1 hq37.2.1 hq37.2.2 TS TA TS2 TV SS) hZ (hw _ (List.mem_of_getElem? (i := 38) rfl)) (hw _ (List.mem_of_getElem? (i := 37) rfl)) (by decide) (by decide)) (g := (mkF m 179 #[iv p0, iv p1, iv p2, iv p3, iv c0, iv c1, iv c2, rv b6, rv b30, iv 0, iv 2, iv 1, iv 1, iv 0, iv 0, .unset] [(.int (2 : Int32)), (.int (0 : Int32)), (.ref b30)])) rfl (by rw [hml]; rfl) (argsL := [(.ref b30), (.int (0 : Int32)), (.int (2 : Int32))]) (rest := []) (lenOf pd_15 rfl) rfl (by show 2 * 0 + _ ≤ _; exact Nat.le_of_eq rfl) (hb hby at_179) (fun _ _ => ⟨rfl, eh81, (by decide : 4 + 0 ≤ _), (by decide : 16 + 0 ≤ _)⟩)
     dsimp only [Pt.U, Pt.locs, Pt.cells, Pt.slots] at X84 l84 y84 z84 st84 hQ84
     subst l84 y84 z84
     obtain ⟨rfl, N84q, eh84⟩ := hQ84
     have N84 := Fr.app N81 N84q
     have G85 : ∀ t, Steps p.tables e below (T84.setTop (mkF m 188 #[iv p0, iv p1, iv p2, iv p3, iv c0, iv c1, iv c2, rv b6, rv b30, iv 0, iv 2, iv 1, iv 1, iv 0, iv 0, iv (own_tok [c0, c1])] [(.int (0 : Int32)), (.int (own_tok [c0, c1]))])) t → Steps p.tables e below (s₁.setTop (entryFrame m #[(.int p0), (.int p1), (.int p2), (.int p3)] maxLocals)) t := by
      intro t kt
      refine G82 _ ?_
      refine XS.ifYes X81.here hx rfl (pc0 := 137) (pc' := 170) rfl (hb hby at_137) rfl ((if0 _ _).trans (teq hc137_83).1) (by decide) (by decide) ?_
      refine XS.iconst X81.here hx rfl (hb hby at_170) ?_
      refine XS.istore X81.here hx rfl (hb hby at_171) rfl (l' := #[iv p0, iv p1, iv p2, iv p3, iv c0, iv c1, iv c2, rv b6, rv b30, iv 0, iv 2, iv 1, iv 1, iv 0, iv 0, .unset]) rfl ?_
      refine XS.aload X81.here hx rfl (hb hby at_173) rfl rfl ?_
      refine XS.iload X81.here hx rfl (hb hby at_175) rfl ?_
      refine XS.iload X81.here hx rfl (hb hby at_177) rfl ?_
      refine st84 _ ?_
      refine XS.istore X84.here hx rfl (hb hby at_182) rfl (l' := #[iv p0, iv p1, iv p2, iv p3, iv c0, iv c1, iv c2, rv b6, rv b30, iv 0, iv 2, iv 1, iv 1, iv 0, iv 0, iv (own_tok [c0, c1])]) rfl ?_
      refine XS.iload X84.here hx rfl (hb hby at_184) rfl ?_
      refine XS.iload X84.here hx rfl (hb hby at_186) rfl ?_
      exact kt
     have hc188_86 : (own_tok [c0, c1]) = (0 : Int32) := by rw [own_tok, if_pos hc137_83]
     obtain ⟨fs, hr, hrun, hended, hW, hsame⟩ := X84.leave (v := some (.int (1 : Int32))) (fun h => by rw [Bd.returns] at h; cases h)
     refine ⟨_, _, G85 _ ?_, hrun, hended, _, _, rfl, ?_, ⟨_, rfl⟩, hW, hsame.mono (by decide) (by decide)⟩
     ·skip
      refine XS.icmpNo X84.here hx rfl (hb hby at_188) rfl (teq hc188_86).2 ?_
      refine XS.iconst X84.here hx rfl (hb hby at_191) ?_
      refine XS.goto X84.here hx rfl (pc0 := 192) (pc' := 196) rfl (hb hby at_192) (by decide) (by decide) ?_
      exact retN X84 hx (t := .boolean) Bd.returns (by simp) (hb hby at_196) hr
     ·show Q0 Z p0 p1 p2 p3 tt ct cst fv h0 n0 _ T84.heap _
      rw [eh84]
      exact ⟨rfl, N84⟩
    ·skip
     have G87 : ∀ t, Steps p.tables e below (T81.setTop (mkF m 142 #[iv p0, iv p1, iv p2, iv p3, iv c0, iv c1, iv c2, rv b6, rv b30, iv 0, iv 2, iv 1, iv 1, iv 0, .unset, .unset] [(.int (1 : Int32))])) t → Steps p.tables e below (s₁.setTop (entryFrame m #[(.int p0), (.int p1), (.int p2), (.int p3)] maxLocals)) t := by
      intro t kt
      refine G82 _ ?_
      refine XS.ifNo X81.here hx rfl (hb hby at_137) rfl ((if0 _ _).trans (feq hc137_83).1) ?_
      refine XS.iload X81.here hx rfl (hb hby at_140) rfl ?_
      exact kt
     obtain ⟨_, _, ⟨T88, L88, k88, n88⟩, -, X88, ⟨Lc88, hQ88, l88, y88, z88⟩, st88⟩ := Jvm.LawKit.callS X81 hx (y := (⟨"com/example/wary_bearer/warybearer/http/Http1ReaderIsTokenPinLaw", "isT", "(C)Z"⟩ : MethodName)) hown (mvT hZ (hw _ (List.mem_of_getElem? (i := 59) rfl))) (mvT hZ (hw _ (List.mem_of_getElem? (i := 60) rfl))) (mvT hZ (hw _ (List.mem_of_getElem? (i := 2) rfl))) (mvT hZ (hw _ (List.mem_of_getElem? (i := 61) rfl))) (by decide) (backOf (W := 0) (rm14 l Z a0 hw [] c1  T37.heap n0 z41 ) hZ (hw _ (List.mem_of_getElem? (i := 61) rfl)) (hw _ (List.mem_of_getElem? (i := 2) rfl)) (by decide) (by decide)) (g := (mkF m 147 #[iv p0, iv p1, iv p2, iv p3, iv c0, iv c1, iv c2, rv b6, rv b30, iv 0, iv 2, iv 1, iv 1, iv 0, .unset, .unset] [(.int c1)])) rfl (by rw [hml]; rfl) (argsL := [(.int c1)]) (rest := []) (lenOf pd_16 rfl) rfl (by show 2 * 0 + _ ≤ _; exact Nat.le_of_eq rfl) (hb hby at_147) (fun _ _ => ⟨rfl, eh81, (by decide : 4 + 0 ≤ _), (by decide : 16 + 0 ≤ _)⟩)
     dsimp only [Pt.U, Pt.locs, Pt.cells, Pt.slots] at X88 l88 y88 z88 st88 hQ88
     subst l88 y88 z88
     obtain ⟨rfl, N88q, eh88⟩ := hQ88
     have N88 := Fr.app N81 N88q
     have G89 : ∀ t, Steps p.tables e below (T88.setTop (mkF m 150 #[iv p0, iv p1, iv p2, iv p3, iv c0, iv c1, iv c2, rv b6, rv b30, iv 0, iv 2, iv 1, iv 1, iv 0, .unset, .unset] [(.int (fisT c1))])) t → Steps p.tables e below (s₁.setTop (entryFrame m #[(.int p0), (.int p1), (.int p2), (.int p3)] maxLocals)) t := by
      intro t kt
      refine G87 _ ?_
      refine XS.ifNo X81.here hx rfl (hb hby at_142) rfl ((if0 _ _).trans (feq (by decide)).1) ?_
      refine XS.iload X81.here hx rfl (hb hby at_145) rfl ?_
      refine st88 _ ?_
      exact kt
     by_cases hc150_90 : (fisT c1) = (0 : Int32)
     ·skip
      obtain ⟨_, _, ⟨T91, L91, k91, n91⟩, -, X91, ⟨Lc91, hQ91, l91, y91, z91⟩, st91⟩ := Jvm.LawKit.callS X88 hx (y := (⟨"com/example/wary_bearer/warybearer/http/Http1Reader", "isToken", "(Ljava/lang/String;II)Z"⟩ : MethodName)) hown (mvT hZ (hw _ (List.mem_of_getElem? (i := 35) rfl))) (mvT hZ (hw _ (List.mem_of_getElem? (i := 36) rfl))) (mvT hZ (hw _ (List.mem_of_getElem? (i := 37) rfl))) (mvT hZ (hw _ (List.mem_of_getElem? (i := 38) rfl))) (by decide) (backOf (W := 0) (rmTokL02 l Z a0 hw [] b30 c0 c1 c2 ta37 kb37 tt ct cst fv T37.heap n0 z41 A37 Fc37 Fv37 V37 fa38 hb0 hb1 hb2 hq37.1 hq37.2.1 hq37.2.2 TS TA TS2 TV SS) hZ (hw _ (List.mem_of_getElem? (i := 38) rfl)) (hw _ (List.mem_of_getElem? (i := 37) rfl)) (by decide) (by decide)) (g := (mkF m 179 #[iv p0, iv p1, iv p2, iv p3, iv c0, iv c1, iv c2, rv b6, rv b30, iv 0, iv 2, iv 1, iv 1, iv 0, iv 0, .unset] [(.int (2 : Int32)), (.int (0 : Int32)), (.ref b30)])) rfl (by rw [hml]; rfl) (argsL := [(.ref b30), (.int (0 : Int32)), (.int (2 : Int32))]) (rest := []) (lenOf pd_15 rfl) rfl (by show 2 * 0 + _ ≤ _; exact Nat.le_of_eq rfl) (hb hby at_179) (fun _ _ => ⟨rfl, eh88, (by decide : 4 + 0 ≤ _), (by decide : 16 + 0 ≤ _)⟩)
      dsimp only [Pt.U, Pt.locs, Pt.cells, Pt.slots] at X91 l91 y91 z91 st91 hQ91
      subst l91 y91 z91
      obtain ⟨rfl, N91q, eh91⟩ := hQ91
      have N91 := Fr.app N88 N91q
      have G92 : ∀ t, Steps p.tables e below (T91.setTop (mkF m 188 #[iv p0, iv p1, iv p2, iv p3, iv c0, iv c1, iv c2, rv b6, rv b30, iv 0, iv 2, iv 1, iv 1, iv 0, iv 0, iv (own_tok [c0, c1])] [(.int (0 : Int32)), (.int (own_tok [c0, c1]))])) t → Steps p.tables e below (s₁.setTop (entryFrame m #[(.int p0), (.int p1), (.int p2), (.int p3)] maxLocals)) t := by
       intro t kt
       refine G89 _ ?_
       refine XS.ifYes X88.here hx rfl (pc0 := 150) (pc' := 170) rfl (hb hby at_150) rfl ((if0 _ _).trans (teq hc150_90).1) (by decide) (by decide) ?_
       refine XS.iconst X88.here hx rfl (hb hby at_170) ?_
       refine XS.istore X88.here hx rfl (hb hby at_171) rfl (l' := #[iv p0, iv p1, iv p2, iv p3, iv c0, iv c1, iv c2, rv b6, rv b30, iv 0, iv 2, iv 1, iv 1, iv 0, iv 0, .unset]) rfl ?_
       refine XS.aload X88.here hx rfl (hb hby at_173) rfl rfl ?_
       refine XS.iload X88.here hx rfl (hb hby at_175) rfl ?_
       refine XS.iload X88.here hx rfl (hb hby at_177) rfl ?_
       refine st91 _ ?_
       refine XS.istore X91.here hx rfl (hb hby at_182) rfl (l' := #[iv p0, iv p1, iv p2, iv p3, iv c0, iv c1, iv c2, rv b6, rv b30, iv 0, iv 2, iv 1, iv 1, iv 0, iv 0, iv (own_tok [c0, c1])]) rfl ?_
       refine XS.iload X91.here hx rfl (hb hby at_184) rfl ?_
       refine XS.iload X91.here hx rfl (hb hby at_186) rfl ?_
       exact kt
      have hc188_93 : (own_tok [c0, c1]) = (0 : Int32) := by rw [own_tok, if_neg hc137_83, own_tok, if_pos hc150_90]
      obtain ⟨fs, hr, hrun, hended, hW, hsame⟩ := X91.leave (v := some (.int (1 : Int32))) (fun h => by rw [Bd.returns] at h; cases h)
      refine ⟨_, _, G92 _ ?_, hrun, hended, _, _, rfl, ?_, ⟨_, rfl⟩, hW, hsame.mono (by decide) (by decide)⟩
      ·skip
       refine XS.icmpNo X91.here hx rfl (hb hby at_188) rfl (teq hc188_93).2 ?_
       refine XS.iconst X91.here hx rfl (hb hby at_191) ?_
       refine XS.goto X91.here hx rfl (pc0 := 192) (pc' := 196) rfl (hb hby at_192) (by decide) (by decide) ?_
       exact retN X91 hx (t := .boolean) Bd.returns (by simp) (hb hby at_196) hr
      ·show Q0 Z p0 p1 p2 p3 tt ct cst fv h0 n0 _ T91.heap _
       rw [eh91]
       exact ⟨rfl, N91⟩
     ·skip
      have G94 : ∀ t, Steps p.tables e below (T88.setTop (mkF m 155 #[iv p0, iv p1, iv p2, iv p3, iv c0, iv c1, iv c2, rv b6, rv b30, iv 0, iv 2, iv 1, iv 1, iv 0, .unset, .unset] [(.int (0 : Int32))])) t → Steps p.tables e below (s₁.setTop (entryFrame m #[(.int p0), (.int p1), (.int p2), (.int p3)] maxLocals)) t := by
       intro t kt
       refine G89 _ ?_
       refine XS.ifNo X88.here hx rfl (hb hby at_150) rfl ((if0 _ _).trans (feq hc150_90).1) ?_
       refine XS.iload X88.here hx rfl (hb hby at_153) rfl ?_
       exact kt
      obtain ⟨_, _, ⟨T95, L95, k95, n95⟩, -, X95, ⟨Lc95, hQ95, l95, y95, z95⟩, st95⟩ := Jvm.LawKit.callS X88 hx (y := (⟨"com/example/wary_bearer/warybearer/http/Http1Reader", "isToken", "(Ljava/lang/String;II)Z"⟩ : MethodName)) hown (mvT hZ (hw _ (List.mem_of_getElem? (i := 35) rfl))) (mvT hZ (hw _ (List.mem_of_getElem? (i := 36) rfl))) (mvT hZ (hw _ (List.mem_of_getElem? (i := 37) rfl))) (mvT hZ (hw _ (List.mem_of_getElem? (i := 38) rfl))) (by decide) (backOf (W := 0) (rmTokL02 l Z a0 hw [] b30 c0 c1 c2 ta37 kb37 tt ct cst fv T37.heap n0 z41 A37 Fc37 Fv37 V37 fa38 hb0 hb1 hb2 hq37.1 hq37.2.1 hq37.2.2 TS TA TS2 TV SS) hZ (hw _ (List.mem_of_getElem? (i := 38) rfl)) (hw _ (List.mem_of_getElem? (i := 37) rfl)) (by decide) (by decide)) (g := (mkF m 179 #[iv p0, iv p1, iv p2, iv p3, iv c0, iv c1, iv c2, rv b6, rv b30, iv 0, iv 2, iv 1, iv 1, iv 0, iv 1, .unset] [(.int (2 : Int32)), (.int (0 : Int32)), (.ref b30)])) rfl (by rw [hml]; rfl) (argsL := [(.ref b30), (.int (0 : Int32)), (.int (2 : Int32))]) (rest := []) (lenOf pd_15 rfl) rfl (by show 2 * 0 + _ ≤ _; exact Nat.le_of_eq rfl) (hb hby at_179) (fun _ _ => ⟨rfl, eh88, (by decide : 4 + 0 ≤ _), (by decide : 16 + 0 ≤ _)⟩)
      dsimp only [Pt.U, Pt.locs, Pt.cells, Pt.slots] at X95 l95 y95 z95 st95 hQ95
      subst l95 y95 z95
      obtain ⟨rfl, N95q, eh95⟩ := hQ95
      have N95 := Fr.app N88 N95q
      have G96 : ∀ t, Steps p.tables e below (T95.setTop (mkF m 188 #[iv p0, iv p1, iv p2, iv p3, iv c0, iv c1, iv c2, rv b6, rv b30, iv 0, iv 2, iv 1, iv 1, iv 0, iv 1, iv (own_tok [c0, c1])] [(.int (1 : Int32)), (.int (own_tok [c0, c1]))])) t → Steps p.tables e below (s₁.setTop (entryFrame m #[(.int p0), (.int p1), (.int p2), (.int p3)] maxLocals)) t := by
       intro t kt
       refine G94 _ ?_
       refine XS.ifYes X88.here hx rfl (pc0 := 155) (pc' := 166) rfl (hb hby at_155) rfl ((if0 _ _).trans (teq (by decide)).1) (by decide) (by decide) ?_
       refine XS.iconst X88.here hx rfl (hb hby at_166) ?_
       refine XS.goto X88.here hx rfl (pc0 := 167) (pc' := 171) rfl (hb hby at_167) (by decide) (by decide) ?_
       refine XS.istore X88.here hx rfl (hb hby at_171) rfl (l' := #[iv p0, iv p1, iv p2, iv p3, iv c0, iv c1, iv c2, rv b6, rv b30, iv 0, iv 2, iv 1, iv 1, iv 0, iv 1, .unset]) rfl ?_
       refine XS.aload X88.here hx rfl (hb hby at_173) rfl rfl ?_
       refine XS.iload X88.here hx rfl (hb hby at_175) rfl ?_
       refine XS.iload X88.here hx rfl (hb hby at_177) rfl ?_
       refine st95 _ ?_
       refine XS.istore X95.here hx rfl (hb hby at_182) rfl (l' := #[iv p0, iv p1, iv p2, iv p3, iv c0, iv c1, iv c2, rv b6, rv b30, iv 0, iv 2, iv 1, iv 1, iv 0, iv 1, iv (own_tok [c0, c1])]) rfl ?_
       refine XS.iload X95.here hx rfl (hb hby at_184) rfl ?_
       refine XS.iload X95.here hx rfl (hb hby at_186) rfl ?_
       exact kt
      have hc188_97 : (own_tok [c0, c1]) = (1 : Int32) := by rw [own_tok, if_neg hc137_83, own_tok, if_neg hc150_90, own_tok]
      obtain ⟨fs, hr, hrun, hended, hW, hsame⟩ := X95.leave (v := some (.int (1 : Int32))) (fun h => by rw [Bd.returns] at h; cases h)
      refine ⟨_, _, G96 _ ?_, hrun, hended, _, _, rfl, ?_, ⟨_, rfl⟩, hW, hsame.mono (by decide) (by decide)⟩
      ·skip
       refine XS.icmpNo X95.here hx rfl (hb hby at_188) rfl (teq hc188_97).2 ?_
       refine XS.iconst X95.here hx rfl (hb hby at_191) ?_
       refine XS.goto X95.here hx rfl (pc0 := 192) (pc' := 196) rfl (hb hby at_192) (by decide) (by decide) ?_
       show Steps p.tables e below (T95.setTop (mkF m 196 #[iv p0, iv p1, iv p2, iv p3, iv c0, iv c1, iv c2, rv b6, rv b30, iv 0, iv 2, iv 1, iv 1, iv 0, iv 1, iv (own_tok [c0, c1])] [(.int (1 : Int32))])) _
       exact retN X95 hx (t := .boolean) Bd.returns (by simp) (hb hby at_196) hr
      ·show Q0 Z p0 p1 p2 p3 tt ct cst fv h0 n0 _ T95.heap _
       rw [eh95]
       exact ⟨rfl, N95⟩
   ·skip
    have G98 : ∀ t, Steps p.tables e below (T37.setTop (mkF m 66 #[iv p0, iv p1, iv p2, iv p3, iv c0, iv c1, iv c2, rv b6, rv b30, iv 0, iv 3, .unset, .unset, .unset, .unset, .unset] [(.int (0 : Int32))])) t → Steps p.tables e below (s₁.setTop (entryFrame m #[(.int p0), (.int p1), (.int p2), (.int p3)] maxLocals)) t := by
     intro t kt
     refine G44 _ ?_
     show Steps p.tables e below (T37.setTop (mkF m 64 #[iv p0, iv p1, iv p2, iv p3, iv c0, iv c1, iv c2, rv b6, rv b30, iv 0, iv 3, .unset, .unset, .unset, .unset, .unset] [])) _
     refine XS.iload X37.here hx rfl (hb hby at_64) rfl ?_
     exact kt
    have G99 : ∀ t, Steps p.tables e below (T37.setTop (mkF m 72 #[iv p0, iv p1, iv p2, iv p3, iv c0, iv c1, iv c2, rv b6, rv b30, iv 0, iv 3, .unset, .unset, .unset, .unset, .unset] [(.int (3 : Int32)), (.int (0 : Int32))])) t → Steps p.tables e below (s₁.setTop (entryFrame m #[(.int p0), (.int p1), (.int p2), (.int p3)] maxLocals)) t := by
     intro t kt
     refine G98 _ ?_
     refine XS.ifNo X37.here hx rfl (hb hby at_66) rfl ((if0 _ _).trans (flt (by decide)).2.2.1) ?_
     refine XS.iconst X37.here hx rfl (hb hby at_69) ?_
     refine XS.iload X37.here hx rfl (hb hby at_70) rfl ?_
     exact kt
    have G100 : ∀ t, Steps p.tables e below (T37.setTop (mkF m 85 #[iv p0, iv p1, iv p2, iv p3, iv c0, iv c1, iv c2, rv b6, rv b30, iv 0, iv 3, iv 1, .unset, .unset, .unset, .unset] [(.int (1 : Int32)), (.int (0 : Int32))])) t → Steps p.tables e below (s₁.setTop (entryFrame m #[(.int p0), (.int p1), (.int p2), (.int p3)] maxLocals)) t := by
     intro t kt
     refine G99 _ ?_
     refine XS.icmpNo X37.here hx rfl (hb hby at_72) rfl (tlt (by decide)).2.1 ?_
     refine XS.iconst X37.here hx rfl (hb hby at_75) ?_
     refine XS.goto X37.here hx rfl (pc0 := 76) (pc' := 80) rfl (hb hby at_76) (by decide) (by decide) ?_
     refine XS.istore X37.here hx rfl (hb hby at_80) rfl (l' := #[iv p0, iv p1, iv p2, iv p3, iv c0, iv c1, iv c2, rv b6, rv b30, iv 0, iv 3, iv 1, .unset, .unset, .unset, .unset]) rfl ?_
     refine XS.iload X37.here hx rfl (hb hby at_82) rfl ?_
     refine XS.iconst X37.here hx rfl (hb hby at_84) ?_
     exact kt
    have G101 : ∀ t, Steps p.tables e below (T37.setTop (mkF m 91 #[iv p0, iv p1, iv p2, iv p3, iv c0, iv c1, iv c2, rv b6, rv b30, iv 0, iv 3, iv 1, .unset, .unset, .unset, .unset] [(.int (3 : Int32)), (.int (1 : Int32))])) t → Steps p.tables e below (s₁.setTop (entryFrame m #[(.int p0), (.int p1), (.int p2), (.int p3)] maxLocals)) t := by
     intro t kt
     refine G100 _ ?_
     refine XS.icmpNo X37.here hx rfl (hb hby at_85) rfl (flt (by decide)).2.2.1 ?_
     refine XS.iconst X37.here hx rfl (hb hby at_88) ?_
     refine XS.iload X37.here hx rfl (hb hby at_89) rfl ?_
     exact kt
    have G102 : ∀ t, Steps p.tables e below (T37.setTop (mkF m 104 #[iv p0, iv p1, iv p2, iv p3, iv c0, iv c1, iv c2, rv b6, rv b30, iv 0, iv 3, iv 1, iv 1, .unset, .unset, .unset] [(.int (2 : Int32)), (.int (0 : Int32))])) t → Steps p.tables e below (s₁.setTop (entryFrame m #[(.int p0), (.int p1), (.int p2), (.int p3)] maxLocals)) t := by
     intro t kt
     refine G101 _ ?_
     refine XS.icmpNo X37.here hx rfl (hb hby at_91) rfl (tlt (by decide)).2.1 ?_
     refine XS.iconst X37.here hx rfl (hb hby at_94) ?_
     refine XS.goto X37.here hx rfl (pc0 := 95) (pc' := 99) rfl (hb hby at_95) (by decide) (by decide) ?_
     refine XS.istore X37.here hx rfl (hb hby at_99) rfl (l' := #[iv p0, iv p1, iv p2, iv p3, iv c0, iv c1, iv c2, rv b6, rv b30, iv 0, iv 3, iv 1, iv 1, .unset, .unset, .unset]) rfl ?_
     refine XS.iload X37.here hx rfl (hb hby at_101) rfl ?_
     refine XS.iconst X37.here hx rfl (hb hby at_103) ?_
     exact kt
    have G103 : ∀ t, Steps p.tables e below (T37.setTop (mkF m 110 #[iv p0, iv p1, iv p2, iv p3, iv c0, iv c1, iv c2, rv b6, rv b30, iv 0, iv 3, iv 1, iv 1, .unset, .unset, .unset] [(.int (3 : Int32)), (.int (2 : Int32))])) t → Steps p.tables e below (s₁.setTop (entryFrame m #[(.int p0), (.int p1), (.int p2), (.int p3)] maxLocals)) t := by
     intro t kt
     refine G102 _ ?_
     refine XS.icmpNo X37.here hx rfl (hb hby at_104) rfl (flt (by decide)).2.2.1 ?_
     refine XS.iconst X37.here hx rfl (hb hby at_107) ?_
     refine XS.iload X37.here hx rfl (hb hby at_108) rfl ?_
     exact kt
    have G104 : ∀ t, Steps p.tables e below (T37.setTop (mkF m 124 #[iv p0, iv p1, iv p2, iv p3, iv c0, iv c1, iv c2, rv b6, rv b30, iv 0, iv 3, iv 1, iv 1, iv 1, .unset, .unset] [(.int (3 : Int32)), (.int (0 : Int32))])) t → Steps p.tables e below (s₁.setTop (entryFrame m #[(.int p0), (.int p1), (.int p2), (.int p3)] maxLocals)) t := by
     intro t kt
     refine G103 _ ?_
     refine XS.icmpNo X37.here hx rfl (hb hby at_110) rfl (tlt (by decide)).2.1 ?_
     refine XS.iconst X37.here hx rfl (hb hby at_113) ?_
     refine XS.goto X37.here hx rfl (pc0 := 114) (pc' := 118) rfl (hb hby at_114) (by decide) (by decide) ?_
     refine XS.istore X37.here hx rfl (hb hby at_118) rfl (l' := #[iv p0, iv p1, iv p2, iv p3, iv c0, iv c1, iv c2, rv b6, rv b30, iv 0, iv 3, iv 1, iv 1, iv 1, .unset, .unset]) rfl ?_
     show Steps p.tables e below (T37.setTop (mkF m 120 #[iv p0, iv p1, iv p2, iv p3, iv c0, iv c1, iv c2, rv b6, rv b30, iv 0, iv 3, iv 1, iv 1, iv 1, .unset, .unset] [])) _
     refine XS.iload X37.here hx rfl (hb hby at_120) rfl ?_
     refine XS.iload X37.here hx rfl (hb hby at_122) rfl ?_
     exact kt
    have G105 : ∀ t, Steps p.tables e below (T37.setTop (mkF m 129 #[iv p0, iv p1, iv p2, iv p3, iv c0, iv c1, iv c2, rv b6, rv b30, iv 0, iv 3, iv 1, iv 1, iv 1, .unset, .unset] [(.int (1 : Int32))])) t → Steps p.tables e below (s₁.setTop (entryFrame m #[(.int p0), (.int p1), (.int p2), (.int p3)] maxLocals)) t := by
     intro t kt
     refine G104 _ ?_
     refine XS.icmpNo X37.here hx rfl (hb hby at_124) rfl (tlt (by decide)).2.1 ?_
     refine XS.iload X37.here hx rfl (hb hby at_127) rfl ?_
     exact kt
    obtain ⟨_, _, ⟨T106, L106, k106, n106⟩, -, X106, ⟨Lc106, hQ106, l106, y106, z106⟩, st106⟩ := Jvm.LawKit.callS X37 hx (y := (⟨"com/example/wary_bearer/warybearer/http/Http1ReaderIsTokenPinLaw", "isT", "(C)Z"⟩ : MethodName)) hown (mvT hZ (hw _ (List.mem_of_getElem? (i := 59) rfl))) (mvT hZ (hw _ (List.mem_of_getElem? (i := 60) rfl))) (mvT hZ (hw _ (List.mem_of_getElem? (i := 2) rfl))) (mvT hZ (hw _ (List.mem_of_getElem? (i := 61) rfl))) (by decide) (backOf (W := 0) (rm14 l Z a0 hw [] c0  T37.heap n0 z41 ) hZ (hw _ (List.mem_of_getElem? (i := 61) rfl)) (hw _ (List.mem_of_getElem? (i := 2) rfl)) (by decide) (by decide)) (g := (mkF m 134 #[iv p0, iv p1, iv p2, iv p3, iv c0, iv c1, iv c2, rv b6, rv b30, iv 0, iv 3, iv 1, iv 1, iv 1, .unset, .unset] [(.int c0)])) rfl (by rw [hml]; rfl) (argsL := [(.int c0)]) (rest := []) (lenOf pd_16 rfl) rfl (by show 2 * 0 + _ ≤ _; exact Nat.le_of_eq rfl) (hb hby at_134) (fun _ _ => ⟨rfl, rfl, (by decide : 4 + 0 ≤ _), (by decide : 16 + 0 ≤ _)⟩)
    dsimp only [Pt.U, Pt.locs, Pt.cells, Pt.slots] at X106 l106 y106 z106 st106 hQ106
    subst l106 y106 z106
    obtain ⟨rfl, N106q, eh106⟩ := hQ106
    have N106 := Fr.app N37 N106q
    have G107 : ∀ t, Steps p.tables e below (T106.setTop (mkF m 137 #[iv p0, iv p1, iv p2, iv p3, iv c0, iv c1, iv c2, rv b6, rv b30, iv 0, iv 3, iv 1, iv 1, iv 1, .unset, .unset] [(.int (fisT c0))])) t → Steps p.tables e below (s₁.setTop (entryFrame m #[(.int p0), (.int p1), (.int p2), (.int p3)] maxLocals)) t := by
     intro t kt
     refine G105 _ ?_
     refine XS.ifNo X37.here hx rfl (hb hby at_129) rfl ((if0 _ _).trans (feq (by decide)).1) ?_
     refine XS.iload X37.here hx rfl (hb hby at_132) rfl ?_
     refine st106 _ ?_
     exact kt
    by_cases hc137_108 : (fisT c0) = (0 : Int32)
    ·skip
     obtain ⟨_, _, ⟨T109, L109, k109, n109⟩, -, X109, ⟨Lc109, hQ109, l109, y109, z109⟩, st109⟩ := Jvm.LawKit.callS X106 hx (y := (⟨"com/example/wary_bearer/warybearer/http/Http1Reader", "isToken", "(Ljava/lang/String;II)Z"⟩ : MethodName)) hown (mvT hZ (hw _ (List.mem_of_getElem? (i := 35) rfl))) (mvT hZ (hw _ (List.mem_of_getElem? (i := 36) rfl))) (mvT hZ (hw _ (List.mem_of_getElem? (i := 37) rfl))) (mvT hZ (hw _ (List.mem_of_getElem? (i := 38) rfl))) (by decide) (backOf (W := 0) (rmTokL03 l Z a0 hw [] b30 c0 c1 c2 ta37 kb37 tt ct cst fv T37.heap n0 z41 A37 Fc37 Fv37 V37 fa38 hb0 hb1 hb2 hq37.1 hq37.2.1 hq37.2.2 TS TA TS2 TV SS) hZ (hw _ (List.mem_of_getElem? (i := 38) rfl)) (hw _ (List.mem_of_getElem? (i := 37) rfl)) (by decide) (by decide)) (g := (mkF m 179 #[iv p0, iv p1, iv p2, iv p3, iv c0, iv c1, iv c2, rv b6, rv b30, iv 0, iv 3, iv 1, iv 1, iv 1, iv 0, .unset] [(.int (3 : Int32)), (.int (0 : Int32)), (.ref b30)])) rfl (by rw [hml]; rfl) (argsL := [(.ref b30), (.int (0 : Int32)), (.int (3 : Int32))]) (rest := []) (lenOf pd_15 rfl) rfl (by show 2 * 0 + _ ≤ _; exact Nat.le_of_eq rfl) (hb hby at_179) (fun _ _ => ⟨rfl, eh106, (by decide : 4 + 0 ≤ _), (by decide : 16 + 0 ≤ _)⟩)
     dsimp only [Pt.U, Pt.locs, Pt.cells, Pt.slots] at X109 l109 y109 z109 st109 hQ109
     subst l109 y109 z109
     obtain ⟨rfl, N109q, eh109⟩ := hQ109
     have N109 := Fr.app N106 N109q
     have G110 : ∀ t, Steps p.tables e below (T109.setTop (mkF m 188 #[iv p0, iv p1, iv p2, iv p3, iv c0, iv c1, iv c2, rv b6, rv b30, iv 0, iv 3, iv 1, iv 1, iv 1, iv 0, iv (own_tok [c0, c1, c2])] [(.int (0 : Int32)), (.int (own_tok [c0, c1, c2]))])) t → Steps p.tables e below (s₁.setTop (entryFrame m #[(.int p0), (.int p1), (.int p2), (.int p3)] maxLocals)) t := by
      intro t kt
      refine G107 _ ?_
      refine XS.ifYes X106.here hx rfl (pc0 := 137) (pc' := 170) rfl (hb hby at_137) rfl ((if0 _ _).trans (teq hc137_108).1) (by decide) (by decide) ?_
      refine XS.iconst X106.here hx rfl (hb hby at_170) ?_
      refine XS.istore X106.here hx rfl (hb hby at_171) rfl (l' := #[iv p0, iv p1, iv p2, iv p3, iv c0, iv c1, iv c2, rv b6, rv b30, iv 0, iv 3, iv 1, iv 1, iv 1, iv 0, .unset]) rfl ?_
      refine XS.aload X106.here hx rfl (hb hby at_173) rfl rfl ?_
      refine XS.iload X106.here hx rfl (hb hby at_175) rfl ?_
      refine XS.iload X106.here hx rfl (hb hby at_177) rfl ?_
      refine st109 _ ?_
      refine XS.istore X109.here hx rfl (hb hby at_182) rfl (l' := #[iv p0, iv p1, iv p2, iv p3, iv c0, iv c1, iv c2, rv b6, rv b30, iv 0, iv 3, iv 1, iv 1, iv 1, iv 0, iv (own_tok [c0, c1, c2])]) rfl ?_
      refine XS.iload X109.here hx rfl (hb hby at_184) rfl ?_
      refine XS.iload X109.here hx rfl (hb hby at_186) rfl ?_
      exact kt
     have hc188_111 : (own_tok [c0, c1, c2]) = (0 : Int32) := by rw [own_tok, if_pos hc137_108]
     obtain ⟨fs, hr, hrun, hended, hW, hsame⟩ := X109.leave (v := some (.int (1 : Int32))) (fun h => by rw [Bd.returns] at h; cases h)
     refine ⟨_, _, G110 _ ?_, hrun, hended, _, _, rfl, ?_, ⟨_, rfl⟩, hW, hsame.mono (by decide) (by decide)⟩
     ·skip
      refine XS.icmpNo X109.here hx rfl (hb hby at_188) rfl (teq hc188_111).2 ?_
      refine XS.iconst X109.here hx rfl (hb hby at_191) ?_
      refine XS.goto X109.here hx rfl (pc0 := 192) (pc' := 196) rfl (hb hby at_192) (by decide) (by decide) ?_
      exact retN X109 hx (t := .boolean) Bd.returns (by simp) (hb hby at_196) hr
     ·show Q0 Z p0 p1 p2 p3 tt ct cst fv h0 n0 _ T109.heap _
      rw [eh109]
      exact ⟨rfl, N109⟩
    ·skip
     have G112 : ∀ t, Steps p.tables e below (T106.setTop (mkF m 142 #[iv p0, iv p1, iv p2, iv p3, iv c0, iv c1, iv c2, rv b6, rv b30, iv 0, iv 3, iv 1, iv 1, iv 1, .unset, .unset] [(.int (1 : Int32))])) t → Steps p.tables e below (s₁.setTop (entryFrame m #[(.int p0), (.int p1), (.int p2), (.int p3)] maxLocals)) t := by
      intro t kt
      refine G107 _ ?_
      refine XS.ifNo X106.here hx rfl (hb hby at_137) rfl ((if0 _ _).trans (feq hc137_108).1) ?_
      refine XS.iload X106.here hx rfl (hb hby at_140) rfl ?_
      exact kt
     obtain ⟨_, _, ⟨T113, L113, k113, n113⟩, -, X113, ⟨Lc113, hQ113, l113, y113, z113⟩, st113⟩ := Jvm.LawKit.callS X106 hx (y := (⟨"com/example/wary_bearer/warybearer/http/Http1ReaderIsTokenPinLaw", "isT", "(C)Z"⟩ : MethodName)) hown (mvT hZ (hw _ (List.mem_of_getElem? (i := 59) rfl))) (mvT hZ (hw _ (List.mem_of_getElem? (i := 60) rfl))) (mvT hZ (hw _ (List.mem_of_getElem? (i := 2) rfl))) (mvT hZ (hw _ (List.mem_of_getElem? (i := 61) rfl))) (by decide) (backOf (W := 0) (rm14 l Z a0 hw [] c1  T37.heap n0 z41 ) hZ (hw _ (List.mem_of_getElem? (i := 61) rfl)) (hw _ (List.mem_of_getElem? (i := 2) rfl)) (by decide) (by decide)) (g := (mkF m 147 #[iv p0, iv p1, iv p2, iv p3, iv c0, iv c1, iv c2, rv b6, rv b30, iv 0, iv 3, iv 1, iv 1, iv 1, .unset, .unset] [(.int c1)])) rfl (by rw [hml]; rfl) (argsL := [(.int c1)]) (rest := []) (lenOf pd_16 rfl) rfl (by show 2 * 0 + _ ≤ _; exact Nat.le_of_eq rfl) (hb hby at_147) (fun _ _ => ⟨rfl, eh106, (by decide : 4 + 0 ≤ _), (by decide : 16 + 0 ≤ _)⟩)
     dsimp only [Pt.U, Pt.locs, Pt.cells, Pt.slots] at X113 l113 y113 z113 st113 hQ113
     subst l113 y113 z113
     obtain ⟨rfl, N113q, eh113⟩ := hQ113
     have N113 := Fr.app N106 N113q
     have G114 : ∀ t, Steps p.tables e below (T113.setTop (mkF m 150 #[iv p0, iv p1, iv p2, iv p3, iv c0, iv c1, iv c2, rv b6, rv b30, iv 0, iv 3, iv 1, iv 1, iv 1, .unset, .unset] [(.int (fisT c1))])) t → Steps p.tables e below (s₁.setTop (entryFrame m #[(.int p0), (.int p1), (.int p2), (.int p3)] maxLocals)) t := by
      intro t kt
      refine G112 _ ?_
      refine XS.ifNo X106.here hx rfl (hb hby at_142) rfl ((if0 _ _).trans (feq (by decide)).1) ?_
      refine XS.iload X106.here hx rfl (hb hby at_145) rfl ?_
      refine st113 _ ?_
      exact kt
     by_cases hc150_115 : (fisT c1) = (0 : Int32)
     ·skip
      obtain ⟨_, _, ⟨T116, L116, k116, n116⟩, -, X116, ⟨Lc116, hQ116, l116, y116, z116⟩, st116⟩ := Jvm.LawKit.callS X113 hx (y := (⟨"com/example/wary_bearer/warybearer/http/Http1Reader", "isToken", "(Ljava/lang/String;II)Z"⟩ : MethodName)) hown (mvT hZ (hw _ (List.mem_of_getElem? (i := 35) rfl))) (mvT hZ (hw _ (List.mem_of_getElem? (i := 36) rfl))) (mvT hZ (hw _ (List.mem_of_getElem? (i := 37) rfl))) (mvT hZ (hw _ (List.mem_of_getElem? (i := 38) rfl))) (by decide) (backOf (W := 0) (rmTokL03 l Z a0 hw [] b30 c0 c1 c2 ta37 kb37 tt ct cst fv T37.heap n0 z41 A37 Fc37 Fv37 V37 fa38 hb0 hb1 hb2 hq37.1 hq37.2.1 hq37.2.2 TS TA TS2 TV SS) hZ (hw _ (List.mem_of_getElem? (i := 38) rfl)) (hw _ (List.mem_of_getElem? (i := 37) rfl)) (by decide) (by decide)) (g := (mkF m 179 #[iv p0, iv p1, iv p2, iv p3, iv c0, iv c1, iv c2, rv b6, rv b30, iv 0, iv 3, iv 1, iv 1, iv 1, iv 0, .unset] [(.int (3 : Int32)), (.int (0 : Int32)), (.ref b30)])) rfl (by rw [hml]; rfl) (argsL := [(.ref b30), (.int (0 : Int32)), (.int (3 : Int32))]) (rest := []) (lenOf pd_15 rfl) rfl (by show 2 * 0 + _ ≤ _; exact Nat.le_of_eq rfl) (hb hby at_179) (fun _ _ => ⟨rfl, eh113, (by decide : 4 + 0 ≤ _), (by decide : 16 + 0 ≤ _)⟩)
      dsimp only [Pt.U, Pt.locs, Pt.cells, Pt.slots] at X116 l116 y116 z116 st116 hQ116
      subst l116 y116 z116
      obtain ⟨rfl, N116q, eh116⟩ := hQ116
      have N116 := Fr.app N113 N116q
      have G117 : ∀ t, Steps p.tables e below (T116.setTop (mkF m 188 #[iv p0, iv p1, iv p2, iv p3, iv c0, iv c1, iv c2, rv b6, rv b30, iv 0, iv 3, iv 1, iv 1, iv 1, iv 0, iv (own_tok [c0, c1, c2])] [(.int (0 : Int32)), (.int (own_tok [c0, c1, c2]))])) t → Steps p.tables e below (s₁.setTop (entryFrame m #[(.int p0), (.int p1), (.int p2), (.int p3)] maxLocals)) t := by
       intro t kt
       refine G114 _ ?_
       refine XS.ifYes X113.here hx rfl (pc0 := 150) (pc' := 170) rfl (hb hby at_150) rfl ((if0 _ _).trans (teq hc150_115).1) (by decide) (by decide) ?_
       refine XS.iconst X113.here hx rfl (hb hby at_170) ?_
       refine XS.istore X113.here hx rfl (hb hby at_171) rfl (l' := #[iv p0, iv p1, iv p2, iv p3, iv c0, iv c1, iv c2, rv b6, rv b30, iv 0, iv 3, iv 1, iv 1, iv 1, iv 0, .unset]) rfl ?_
       refine XS.aload X113.here hx rfl (hb hby at_173) rfl rfl ?_
       refine XS.iload X113.here hx rfl (hb hby at_175) rfl ?_
       refine XS.iload X113.here hx rfl (hb hby at_177) rfl ?_
       refine st116 _ ?_
       refine XS.istore X116.here hx rfl (hb hby at_182) rfl (l' := #[iv p0, iv p1, iv p2, iv p3, iv c0, iv c1, iv c2, rv b6, rv b30, iv 0, iv 3, iv 1, iv 1, iv 1, iv 0, iv (own_tok [c0, c1, c2])]) rfl ?_
       refine XS.iload X116.here hx rfl (hb hby at_184) rfl ?_
       refine XS.iload X116.here hx rfl (hb hby at_186) rfl ?_
       exact kt
      have hc188_118 : (own_tok [c0, c1, c2]) = (0 : Int32) := by rw [own_tok, if_neg hc137_108, own_tok, if_pos hc150_115]
      obtain ⟨fs, hr, hrun, hended, hW, hsame⟩ := X116.leave (v := some (.int (1 : Int32))) (fun h => by rw [Bd.returns] at h; cases h)
      refine ⟨_, _, G117 _ ?_, hrun, hended, _, _, rfl, ?_, ⟨_, rfl⟩, hW, hsame.mono (by decide) (by decide)⟩
      ·skip
       refine XS.icmpNo X116.here hx rfl (hb hby at_188) rfl (teq hc188_118).2 ?_
       refine XS.iconst X116.here hx rfl (hb hby at_191) ?_
       refine XS.goto X116.here hx rfl (pc0 := 192) (pc' := 196) rfl (hb hby at_192) (by decide) (by decide) ?_
       exact retN X116 hx (t := .boolean) Bd.returns (by simp) (hb hby at_196) hr
      ·show Q0 Z p0 p1 p2 p3 tt ct cst fv h0 n0 _ T116.heap _
       rw [eh116]
       exact ⟨rfl, N116⟩
     ·skip
      have G119 : ∀ t, Steps p.tables e below (T113.setTop (mkF m 155 #[iv p0, iv p1, iv p2, iv p3, iv c0, iv c1, iv c2, rv b6, rv b30, iv 0, iv 3, iv 1, iv 1, iv 1, .unset, .unset] [(.int (1 : Int32))])) t → Steps p.tables e below (s₁.setTop (entryFrame m #[(.int p0), (.int p1), (.int p2), (.int p3)] maxLocals)) t := by
       intro t kt
       refine G114 _ ?_
       refine XS.ifNo X113.here hx rfl (hb hby at_150) rfl ((if0 _ _).trans (feq hc150_115).1) ?_
       refine XS.iload X113.here hx rfl (hb hby at_153) rfl ?_
       exact kt
      obtain ⟨_, _, ⟨T120, L120, k120, n120⟩, -, X120, ⟨Lc120, hQ120, l120, y120, z120⟩, st120⟩ := Jvm.LawKit.callS X113 hx (y := (⟨"com/example/wary_bearer/warybearer/http/Http1ReaderIsTokenPinLaw", "isT", "(C)Z"⟩ : MethodName)) hown (mvT hZ (hw _ (List.mem_of_getElem? (i := 59) rfl))) (mvT hZ (hw _ (List.mem_of_getElem? (i := 60) rfl))) (mvT hZ (hw _ (List.mem_of_getElem? (i := 2) rfl))) (mvT hZ (hw _ (List.mem_of_getElem? (i := 61) rfl))) (by decide) (backOf (W := 0) (rm14 l Z a0 hw [] c2  T37.heap n0 z41 ) hZ (hw _ (List.mem_of_getElem? (i := 61) rfl)) (hw _ (List.mem_of_getElem? (i := 2) rfl)) (by decide) (by decide)) (g := (mkF m 160 #[iv p0, iv p1, iv p2, iv p3, iv c0, iv c1, iv c2, rv b6, rv b30, iv 0, iv 3, iv 1, iv 1, iv 1, .unset, .unset] [(.int c2)])) rfl (by rw [hml]; rfl) (argsL := [(.int c2)]) (rest := []) (lenOf pd_16 rfl) rfl (by show 2 * 0 + _ ≤ _; exact Nat.le_of_eq rfl) (hb hby at_160) (fun _ _ => ⟨rfl, eh113, (by decide : 4 + 0 ≤ _), (by decide : 16 + 0 ≤ _)⟩)
      dsimp only [Pt.U, Pt.locs, Pt.cells, Pt.slots] at X120 l120 y120 z120 st120 hQ120
      subst l120 y120 z120
      obtain ⟨rfl, N120q, eh120⟩ := hQ120
      have N120 := Fr.app N113 N120q
      have G121 : ∀ t, Steps p.tables e below (T120.setTop (mkF m 163 #[iv p0, iv p1, iv p2, iv p3, iv c0, iv c1, iv c2, rv b6, rv b30, iv 0, iv 3, iv 1, iv 1, iv 1, .unset, .unset] [(.int (fisT c2))])) t → Steps p.tables e below (s₁.setTop (entryFrame m #[(.int p0), (.int p1), (.int p2), (.int p3)] maxLocals)) t := by
       intro t kt
       refine G119 _ ?_
       refine XS.ifNo X113.here hx rfl (hb hby at_155) rfl ((if0 _ _).trans (feq (by decide)).1) ?_
       refine XS.iload X113.here hx rfl (hb hby at_158) rfl ?_
       refine st120 _ ?_
       exact kt
      by_cases hc163_122 : (fisT c2) = (0 : Int32)
      ·skip
       obtain ⟨_, _, ⟨T123, L123, k123, n123⟩, -, X123, ⟨Lc123, hQ123, l123, y123, z123⟩, st123⟩ := Jvm.LawKit.callS X120 hx (y := (⟨"com/example/wary_bearer/warybearer/http/Http1Reader", "isToken", "(Ljava/lang/String;II)Z"⟩ : MethodName)) hown (mvT hZ (hw _ (List.mem_of_getElem? (i := 35) rfl))) (mvT hZ (hw _ (List.mem_of_getElem? (i := 36) rfl))) (mvT hZ (hw _ (List.mem_of_getElem? (i := 37) rfl))) (mvT hZ (hw _ (List.mem_of_getElem? (i := 38) rfl))) (by decide) (backOf (W := 0) (rmTokL03 l Z a0 hw [] b30 c0 c1 c2 ta37 kb37 tt ct cst fv T37.heap n0 z41 A37 Fc37 Fv37 V37 fa38 hb0 hb1 hb2 hq37.1 hq37.2.1 hq37.2.2 TS TA TS2 TV SS) hZ (hw _ (List.mem_of_getElem? (i := 38) rfl)) (hw _ (List.mem_of_getElem? (i := 37) rfl)) (by decide) (by decide)) (g := (mkF m 179 #[iv p0, iv p1, iv p2, iv p3, iv c0, iv c1, iv c2, rv b6, rv b30, iv 0, iv 3, iv 1, iv 1, iv 1, iv 0, .unset] [(.int (3 : Int32)), (.int (0 : Int32)), (.ref b30)])) rfl (by rw [hml]; rfl) (argsL := [(.ref b30), (.int (0 : Int32)), (.int (3 : Int32))]) (rest := []) (lenOf pd_15 rfl) rfl (by show 2 * 0 + _ ≤ _; exact Nat.le_of_eq rfl) (hb hby at_179) (fun _ _ => ⟨rfl, eh120, (by decide : 4 + 0 ≤ _), (by decide : 16 + 0 ≤ _)⟩)
       dsimp only [Pt.U, Pt.locs, Pt.cells, Pt.slots] at X123 l123 y123 z123 st123 hQ123
       subst l123 y123 z123
       obtain ⟨rfl, N123q, eh123⟩ := hQ123
       have N123 := Fr.app N120 N123q
       have G124 : ∀ t, Steps p.tables e below (T123.setTop (mkF m 188 #[iv p0, iv p1, iv p2, iv p3, iv c0, iv c1, iv c2, rv b6, rv b30, iv 0, iv 3, iv 1, iv 1, iv 1, iv 0, iv (own_tok [c0, c1, c2])] [(.int (0 : Int32)), (.int (own_tok [c0, c1, c2]))])) t → Steps p.tables e below (s₁.setTop (entryFrame m #[(.int p0), (.int p1), (.int p2), (.int p3)] maxLocals)) t := by
        intro t kt
        refine G121 _ ?_
        refine XS.ifYes X120.here hx rfl (pc0 := 163) (pc' := 170) rfl (hb hby at_163) rfl ((if0 _ _).trans (teq hc163_122).1) (by decide) (by decide) ?_
        refine XS.iconst X120.here hx rfl (hb hby at_170) ?_
        refine XS.istore X120.here hx rfl (hb hby at_171) rfl (l' := #[iv p0, iv p1, iv p2, iv p3, iv c0, iv c1, iv c2, rv b6, rv b30, iv 0, iv 3, iv 1, iv 1, iv 1, iv 0, .unset]) rfl ?_
        refine XS.aload X120.here hx rfl (hb hby at_173) rfl rfl ?_
        refine XS.iload X120.here hx rfl (hb hby at_175) rfl ?_
        refine XS.iload X120.here hx rfl (hb hby at_177) rfl ?_
        refine st123 _ ?_
        refine XS.istore X123.here hx rfl (hb hby at_182) rfl (l' := #[iv p0, iv p1, iv p2, iv p3, iv c0, iv c1, iv c2, rv b6, rv b30, iv 0, iv 3, iv 1, iv 1, iv 1, iv 0, iv (own_tok [c0, c1, c2])]) rfl ?_
        refine XS.iload X123.here hx rfl (hb hby at_184) rfl ?_
        refine XS.iload X123.here hx rfl (hb hby at_186) rfl ?_
        exact kt
       have hc188_125 : (own_tok [c0, c1, c2]) = (0 : Int32) := by rw [own_tok, if_neg hc137_108, own_tok, if_neg hc150_115, own_tok, if_pos hc163_122]
       obtain ⟨fs, hr, hrun, hended, hW, hsame⟩ := X123.leave (v := some (.int (1 : Int32))) (fun h => by rw [Bd.returns] at h; cases h)
       refine ⟨_, _, G124 _ ?_, hrun, hended, _, _, rfl, ?_, ⟨_, rfl⟩, hW, hsame.mono (by decide) (by decide)⟩
       ·skip
        refine XS.icmpNo X123.here hx rfl (hb hby at_188) rfl (teq hc188_125).2 ?_
        show Steps p.tables e below (T123.setTop (mkF m 191 #[iv p0, iv p1, iv p2, iv p3, iv c0, iv c1, iv c2, rv b6, rv b30, iv 0, iv 3, iv 1, iv 1, iv 1, iv 0, iv (own_tok [c0, c1, c2])] [])) _
        refine XS.iconst X123.here hx rfl (hb hby at_191) ?_
        refine XS.goto X123.here hx rfl (pc0 := 192) (pc' := 196) rfl (hb hby at_192) (by decide) (by decide) ?_
        exact retN X123 hx (t := .boolean) Bd.returns (by simp) (hb hby at_196) hr
       ·show Q0 Z p0 p1 p2 p3 tt ct cst fv h0 n0 _ T123.heap _
        rw [eh123]
        exact ⟨rfl, N123⟩
      ·skip
       obtain ⟨_, _, ⟨T126, L126, k126, n126⟩, -, X126, ⟨Lc126, hQ126, l126, y126, z126⟩, st126⟩ := Jvm.LawKit.callS X120 hx (y := (⟨"com/example/wary_bearer/warybearer/http/Http1Reader", "isToken", "(Ljava/lang/String;II)Z"⟩ : MethodName)) hown (mvT hZ (hw _ (List.mem_of_getElem? (i := 35) rfl))) (mvT hZ (hw _ (List.mem_of_getElem? (i := 36) rfl))) (mvT hZ (hw _ (List.mem_of_getElem? (i := 37) rfl))) (mvT hZ (hw _ (List.mem_of_getElem? (i := 38) rfl))) (by decide) (backOf (W := 0) (rmTokL03 l Z a0 hw [] b30 c0 c1 c2 ta37 kb37 tt ct cst fv T37.heap n0 z41 A37 Fc37 Fv37 V37 fa38 hb0 hb1 hb2 hq37.1 hq37.2.1 hq37.2.2 TS TA TS2 TV SS) hZ (hw _ (List.mem_of_getElem? (i := 38) rfl)) (hw _ (List.mem_of_getElem? (i := 37) rfl)) (by decide) (by decide)) (g := (mkF m 179 #[iv p0, iv p1, iv p2, iv p3, iv c0, iv c1, iv c2, rv b6, rv b30, iv 0, iv 3, iv 1, iv 1, iv 1, iv 1, .unset] [(.int (3 : Int32)), (.int (0 : Int32)), (.ref b30)])) rfl (by rw [hml]; rfl) (argsL := [(.ref b30), (.int (0 : Int32)), (.int (3 : Int32))]) (rest := []) (lenOf pd_15 rfl) rfl (by show 2 * 0 + _ ≤ _; exact Nat.le_of_eq rfl) (hb hby at_179) (fun _ _ => ⟨rfl, eh120, (by decide : 4 + 0 ≤ _), (by decide : 16 + 0 ≤ _)⟩)
       dsimp only [Pt.U, Pt.locs, Pt.cells, Pt.slots] at X126 l126 y126 z126 st126 hQ126
       subst l126 y126 z126
       obtain ⟨rfl, N126q, eh126⟩ := hQ126
       have N126 := Fr.app N120 N126q
       have G127 : ∀ t, Steps p.tables e below (T126.setTop (mkF m 188 #[iv p0, iv p1, iv p2, iv p3, iv c0, iv c1, iv c2, rv b6, rv b30, iv 0, iv 3, iv 1, iv 1, iv 1, iv 1, iv (own_tok [c0, c1, c2])] [(.int (1 : Int32)), (.int (own_tok [c0, c1, c2]))])) t → Steps p.tables e below (s₁.setTop (entryFrame m #[(.int p0), (.int p1), (.int p2), (.int p3)] maxLocals)) t := by
        intro t kt
        refine G121 _ ?_
        refine XS.ifNo X120.here hx rfl (hb hby at_163) rfl ((if0 _ _).trans (feq hc163_122).1) ?_
        refine XS.iconst X120.here hx rfl (hb hby at_166) ?_
        refine XS.goto X120.here hx rfl (pc0 := 167) (pc' := 171) rfl (hb hby at_167) (by decide) (by decide) ?_
        refine XS.istore X120.here hx rfl (hb hby at_171) rfl (l' := #[iv p0, iv p1, iv p2, iv p3, iv c0, iv c1, iv c2, rv b6, rv b30, iv 0, iv 3, iv 1, iv 1, iv 1, iv 1, .unset]) rfl ?_
        refine XS.aload X120.here hx rfl (hb hby at_173) rfl rfl ?_
        refine XS.iload X120.here hx rfl (hb hby at_175) rfl ?_
        refine XS.iload X120.here hx rfl (hb hby at_177) rfl ?_
        refine st126 _ ?_
        refine XS.istore X126.here hx rfl (hb hby at_182) rfl (l' := #[iv p0, iv p1, iv p2, iv p3, iv c0, iv c1, iv c2, rv b6, rv b30, iv 0, iv 3, iv 1, iv 1, iv 1, iv 1, iv (own_tok [c0, c1, c2])]) rfl ?_
        refine XS.iload X126.here hx rfl (hb hby at_184) rfl ?_
        show Steps p.tables e below (T126.setTop (mkF m 186 #[iv p0, iv p1, iv p2, iv p3, iv c0, iv c1, iv c2, rv b6, rv b30, iv 0, iv 3, iv 1, iv 1, iv 1, iv 1, iv (own_tok [c0, c1, c2])] [(.int (own_tok [c0, c1, c2]))])) _
        refine XS.iload X126.here hx rfl (hb hby at_186) rfl ?_
        exact kt
       have hc188_128 : (own_tok [c0, c1, c2]) = (1 : Int32) := by rw [own_tok, if_neg hc137_108, own_tok, if_neg hc150_115, own_tok, if_neg hc163_122, own_tok]
       obtain ⟨fs, hr, hrun, hended, hW, hsame⟩ := X126.leave (v := some (.int (1 : Int32))) (fun h => by rw [Bd.returns] at h; cases h)
       refine ⟨_, _, G127 _ ?_, hrun, hended, _, _, rfl, ?_, ⟨_, rfl⟩, hW, hsame.mono (by decide) (by decide)⟩
       ·skip
        refine XS.icmpNo X126.here hx rfl (hb hby at_188) rfl (teq hc188_128).2 ?_
        refine XS.iconst X126.here hx rfl (hb hby at_191) ?_
        refine XS.goto X126.here hx rfl (pc0 := 192) (pc' := 196) rfl (hb hby at_192) (by decide) (by decide) ?_
        exact retN X126 hx (t := .boolean) Bd.returns (by simp) (hb hby at_196) hr
       ·show Q0 Z p0 p1 p2 p3 tt ct cst fv h0 n0 _ T126.heap _
        rw [eh126]
        exact ⟨rfl, N126⟩
  ·rcases own_at4 hto4 with rfl | rfl | rfl | rfl
   ·skip
    have G129 : ∀ t, Steps p.tables e below (T37.setTop (mkF m 66 #[iv p0, iv p1, iv p2, iv p3, iv c0, iv c1, iv c2, rv b6, rv b30, iv 1, iv 0, .unset, .unset, .unset, .unset, .unset] [(.int (1 : Int32))])) t → Steps p.tables e below (s₁.setTop (entryFrame m #[(.int p0), (.int p1), (.int p2), (.int p3)] maxLocals)) t := by
     intro t kt
     refine G44 _ ?_
     show Steps p.tables e below (T37.setTop (mkF m 64 #[iv p0, iv p1, iv p2, iv p3, iv c0, iv c1, iv c2, rv b6, rv b30, iv 1, iv 0, .unset, .unset, .unset, .unset, .unset] [])) _
     refine XS.iload X37.here hx rfl (hb hby at_64) rfl ?_
     exact kt
    have G130 : ∀ t, Steps p.tables e below (T37.setTop (mkF m 85 #[iv p0, iv p1, iv p2, iv p3, iv c0, iv c1, iv c2, rv b6, rv b30, iv 1, iv 0, iv 0, .unset, .unset, .unset, .unset] [(.int (1 : Int32)), (.int (1 : Int32))])) t → Steps p.tables e below (s₁.setTop (entryFrame m #[(.int p0), (.int p1), (.int p2), (.int p3)] maxLocals)) t := by
     intro t kt
     refine G129 _ ?_
     refine XS.ifYes X37.here hx rfl (pc0 := 66) (pc' := 79) rfl (hb hby at_66) rfl ((if0 _ _).trans (tlt (by decide)).2.2.1) (by decide) (by decide) ?_
     refine XS.iconst X37.here hx rfl (hb hby at_79) ?_
     refine XS.istore X37.here hx rfl (hb hby at_80) rfl (l' := #[iv p0, iv p1, iv p2, iv p3, iv c0, iv c1, iv c2, rv b6, rv b30, iv 1, iv 0, iv 0, .unset, .unset, .unset, .unset]) rfl ?_
     refine XS.iload X37.here hx rfl (hb hby at_82) rfl ?_
     refine XS.iconst X37.here hx rfl (hb hby at_84) ?_
     exact kt
    have G131 : ∀ t, Steps p.tables e below (T37.setTop (mkF m 91 #[iv p0, iv p1, iv p2, iv p3, iv c0, iv c1, iv c2, rv b6, rv b30, iv 1, iv 0, iv 0, .unset, .unset, .unset, .unset] [(.int (0 : Int32)), (.int (1 : Int32))])) t → Steps p.tables e below (s₁.setTop (entryFrame m #[(.int p0), (.int p1), (.int p2), (.int p3)] maxLocals)) t := by
     intro t kt
     refine G130 _ ?_
     refine XS.icmpNo X37.here hx rfl (hb hby at_85) rfl (flt (by decide)).2.2.1 ?_
     refine XS.iconst X37.here hx rfl (hb hby at_88) ?_
     refine XS.iload X37.here hx rfl (hb hby at_89) rfl ?_
     exact kt
    have G132 : ∀ t, Steps p.tables e below (T37.setTop (mkF m 104 #[iv p0, iv p1, iv p2, iv p3, iv c0, iv c1, iv c2, rv b6, rv b30, iv 1, iv 0, iv 0, iv 0, .unset, .unset, .unset] [(.int (2 : Int32)), (.int (1 : Int32))])) t → Steps p.tables e below (s₁.setTop (entryFrame m #[(.int p0), (.int p1), (.int p2), (.int p3)] maxLocals)) t := by
     intro t kt
     refine G131 _ ?_
     refine XS.icmpYes X37.here hx rfl (pc0 := 91) (pc' := 98) rfl (hb hby at_91) rfl (flt (by decide)).2.1 (by decide) (by decide) ?_
     refine XS.iconst X37.here hx rfl (hb hby at_98) ?_
     refine XS.istore X37.here hx rfl (hb hby at_99) rfl (l' := #[iv p0, iv p1, iv p2, iv p3, iv c0, iv c1, iv c2, rv b6, rv b30, iv 1, iv 0, iv 0, iv 0, .unset, .unset, .unset]) rfl ?_
     refine XS.iload X37.here hx rfl (hb hby at_101) rfl ?_
     refine XS.iconst X37.here hx rfl (hb hby at_103) ?_
     exact kt
    have G133 : ∀ t, Steps p.tables e below (T37.setTop (mkF m 110 #[iv p0, iv p1, iv p2, iv p3, iv c0, iv c1, iv c2, rv b6, rv b30, iv 1, iv 0, iv 0, iv 0, .unset, .unset, .unset] [(.int (0 : Int32)), (.int (2 : Int32))])) t → Steps p.tables e below (s₁.setTop (entryFrame m #[(.int p0), (.int p1), (.int p2), (.int p3)] maxLocals)) t := by
     intro t kt
     refine G132 _ ?_
     refine XS.icmpNo X37.here hx rfl (hb hby at_104) rfl (flt (by decide)).2.2.1 ?_
     refine XS.iconst X37.here hx rfl (hb hby at_107) ?_
     refine XS.iload X37.here hx rfl (hb hby at_108) rfl ?_
     exact kt
    have G134 : ∀ t, Steps p.tables e below (T37.setTop (mkF m 124 #[iv p0, iv p1, iv p2, iv p3, iv c0, iv c1, iv c2, rv b6, rv b30, iv 1, iv 0, iv 0, iv 0, iv 0, .unset, .unset] [(.int (0 : Int32)), (.int (1 : Int32))])) t → Steps p.tables e below (s₁.setTop (entryFrame m #[(.int p0), (.int p1), (.int p2), (.int p3)] maxLocals)) t := by
     intro t kt
     refine G133 _ ?_
     refine XS.icmpYes X37.here hx rfl (pc0 := 110) (pc' := 117) rfl (hb hby at_110) rfl (flt (by decide)).2.1 (by decide) (by decide) ?_
     refine XS.iconst X37.here hx rfl (hb hby at_117) ?_
     refine XS.istore X37.here hx rfl (hb hby at_118) rfl (l' := #[iv p0, iv p1, iv p2, iv p3, iv c0, iv c1, iv c2, rv b6, rv b30, iv 1, iv 0, iv 0, iv 0, iv 0, .unset, .unset]) rfl ?_
     refine XS.iload X37.here hx rfl (hb hby at_120) rfl ?_
     refine XS.iload X37.here hx rfl (hb hby at_122) rfl ?_
     exact kt
    obtain ⟨_, _, ⟨T135, L135, k135, n135⟩, -, X135, ⟨Lc135, hQ135, l135, y135, z135⟩, st135⟩ := Jvm.LawKit.callS X37 hx (y := (⟨"com/example/wary_bearer/warybearer/http/Http1Reader", "isToken", "(Ljava/lang/String;II)Z"⟩ : MethodName)) hown (mvT hZ (hw _ (List.mem_of_getElem? (i := 35) rfl))) (mvT hZ (hw _ (List.mem_of_getElem? (i := 36) rfl))) (mvT hZ (hw _ (List.mem_of_getElem? (i := 37) rfl))) (mvT hZ (hw _ (List.mem_of_getElem? (i := 38) rfl))) (by decide) (backOf (W := 0) (rmTok0 l Z a0 hw [] b30 (1 : Int32) (0 : Int32) T37.heap n0 z41 (by decide)) hZ (hw _ (List.mem_of_getElem? (i := 38) rfl)) (hw _ (List.mem_of_getElem? (i := 37) rfl)) (by decide) (by decide)) (g := (mkF m 179 #[iv p0, iv p1, iv p2, iv p3, iv c0, iv c1, iv c2, rv b6, rv b30, iv 1, iv 0, iv 0, iv 0, iv 0, iv 0, .unset] [(.int (0 : Int32)), (.int (1 : Int32)), (.ref b30)])) rfl (by rw [hml]; rfl) (argsL := [(.ref b30), (.int (1 : Int32)), (.int (0 : Int32))]) (rest := []) (lenOf pd_15 rfl) rfl (by show 2 * 0 + _ ≤ _; exact Nat.le_of_eq rfl) (hb hby at_179) (fun _ _ => ⟨rfl, rfl, (by decide : 4 + 0 ≤ _), (by decide : 16 + 0 ≤ _)⟩)
    dsimp only [Pt.U, Pt.locs, Pt.cells, Pt.slots] at X135 l135 y135 z135 st135 hQ135
    subst l135 y135 z135
    obtain ⟨rfl, N135q, eh135⟩ := hQ135
    have N135 := Fr.app N37 N135q
    have G136 : ∀ t, Steps p.tables e below (T135.setTop (mkF m 188 #[iv p0, iv p1, iv p2, iv p3, iv c0, iv c1, iv c2, rv b6, rv b30, iv 1, iv 0, iv 0, iv 0, iv 0, iv 0, iv 0] [(.int (0 : Int32)), (.int (0 : Int32))])) t → Steps p.tables e below (s₁.setTop (entryFrame m #[(.int p0), (.int p1), (.int p2), (.int p3)] maxLocals)) t := by
     intro t kt
     refine G134 _ ?_
     refine XS.icmpYes X37.here hx rfl (pc0 := 124) (pc' := 170) rfl (hb hby at_124) rfl (flt (by decide)).2.1 (by decide) (by decide) ?_
     refine XS.iconst X37.here hx rfl (hb hby at_170) ?_
     refine XS.istore X37.here hx rfl (hb hby at_171) rfl (l' := #[iv p0, iv p1, iv p2, iv p3, iv c0, iv c1, iv c2, rv b6, rv b30, iv 1, iv 0, iv 0, iv 0, iv 0, iv 0, .unset]) rfl ?_
     refine XS.aload X37.here hx rfl (hb hby at_173) rfl rfl ?_
     show Steps p.tables e below (T37.setTop (mkF m 175 #[iv p0, iv p1, iv p2, iv p3, iv c0, iv c1, iv c2, rv b6, rv b30, iv 1, iv 0, iv 0, iv 0, iv 0, iv 0, .unset] [(.ref b30)])) _
     refine XS.iload X37.here hx rfl (hb hby at_175) rfl ?_
     refine XS.iload X37.here hx rfl (hb hby at_177) rfl ?_
     refine st135 _ ?_
     refine XS.istore X135.here hx rfl (hb hby at_182) rfl (l' := #[iv p0, iv p1, iv p2, iv p3, iv c0, iv c1, iv c2, rv b6, rv b30, iv 1, iv 0, iv 0, iv 0, iv 0, iv 0, iv 0]) rfl ?_
     refine XS.iload X135.here hx rfl (hb hby at_184) rfl ?_
     refine XS.iload X135.here hx rfl (hb hby at_186) rfl ?_
     exact kt
    obtain ⟨fs, hr, hrun, hended, hW, hsame⟩ := X135.leave (v := some (.int (1 : Int32))) (fun h => by rw [Bd.returns] at h; cases h)
    refine ⟨_, _, G136 _ ?_, hrun, hended, _, _, rfl, ?_, ⟨_, rfl⟩, hW, hsame.mono (by decide) (by decide)⟩
    ·skip
     refine XS.icmpNo X135.here hx rfl (hb hby at_188) rfl (teq (by decide)).2 ?_
     refine XS.iconst X135.here hx rfl (hb hby at_191) ?_
     refine XS.goto X135.here hx rfl (pc0 := 192) (pc' := 196) rfl (hb hby at_192) (by decide) (by decide) ?_
     exact retN X135 hx (t := .boolean) Bd.returns (by simp) (hb hby at_196) hr
    ·show Q0 Z p0 p1 p2 p3 tt ct cst fv h0 n0 _ T135.heap _
     rw [eh135]
     exact ⟨rfl, N135⟩
   ·skip
    have G137 : ∀ t, Steps p.tables e below (T37.setTop (mkF m 66 #[iv p0, iv p1, iv p2, iv p3, iv c0, iv c1, iv c2, rv b6, rv b30, iv 1, iv 1, .unset, .unset, .unset, .unset, .unset] [(.int (1 : Int32))])) t → Steps p.tables e below (s₁.setTop (entryFrame m #[(.int p0), (.int p1), (.int p2), (.int p3)] maxLocals)) t := by
     intro t kt
     refine G44 _ ?_
     show Steps p.tables e below (T37.setTop (mkF m 64 #[iv p0, iv p1, iv p2, iv p3, iv c0, iv c1, iv c2, rv b6, rv b30, iv 1, iv 1, .unset, .unset, .unset, .unset, .unset] [])) _
     refine XS.iload X37.here hx rfl (hb hby at_64) rfl ?_
     exact kt
    have G138 : ∀ t, Steps p.tables e below (T37.setTop (mkF m 85 #[iv p0, iv p1, iv p2, iv p3, iv c0, iv c1, iv c2, rv b6, rv b30, iv 1, iv 1, iv 0, .unset, .unset, .unset, .unset] [(.int (1 : Int32)), (.int (1 : Int32))])) t → Steps p.tables e below (s₁.setTop (entryFrame m #[(.int p0), (.int p1), (.int p2), (.int p3)] maxLocals)) t := by
     intro t kt
     refine G137 _ ?_
     refine XS.ifYes X37.here hx rfl (pc0 := 66) (pc' := 79) rfl (hb hby at_66) rfl ((if0 _ _).trans (tlt (by decide)).2.2.1) (by decide) (by decide) ?_
     refine XS.iconst X37.here hx rfl (hb hby at_79) ?_
     refine XS.istore X37.here hx rfl (hb hby at_80) rfl (l' := #[iv p0, iv p1, iv p2, iv p3, iv c0, iv c1, iv c2, rv b6, rv b30, iv 1, iv 1, iv 0, .unset, .unset, .unset, .unset]) rfl ?_
     refine XS.iload X37.here hx rfl (hb hby at_82) rfl ?_
     refine XS.iconst X37.here hx rfl (hb hby at_84) ?_
     exact kt
    have G139 : ∀ t, Steps p.tables e below (T37.setTop (mkF m 91 #[iv p0, iv p1, iv p2, iv p3, iv c0, iv c1, iv c2, rv b6, rv b30, iv 1, iv 1, iv 0, .unset, .unset, .unset, .unset] [(.int (1 : Int32)), (.int (1 : Int32))])) t → Steps p.tables e below (s₁.setTop (entryFrame m #[(.int p0), (.int p1), (.int p2), (.int p3)] maxLocals)) t := by
     intro t kt
     refine G138 _ ?_
     refine XS.icmpNo X37.here hx rfl (hb hby at_85) rfl (flt (by decide)).2.2.1 ?_
     refine XS.iconst X37.here hx rfl (hb hby at_88) ?_
     refine XS.iload X37.here hx rfl (hb hby at_89) rfl ?_
     exact kt
    have G140 : ∀ t, Steps p.tables e below (T37.setTop (mkF m 104 #[iv p0, iv p1, iv p2, iv p3, iv c0, iv c1, iv c2, rv b6, rv b30, iv 1, iv 1, iv 0, iv 0, .unset, .unset, .unset] [(.int (2 : Int32)), (.int (1 : Int32))])) t → Steps p.tables e below (s₁.setTop (entryFrame m #[(.int p0), (.int p1), (.int p2), (.int p3)] maxLocals)) t := by
     intro t kt
     refine G139 _ ?_
     refine XS.icmpYes X37.here hx rfl (pc0 := 91) (pc' := 98) rfl (hb hby at_91) rfl (flt (by decide)).2.1 (by decide) (by decide) ?_
     refine XS.iconst X37.here hx rfl (hb hby at_98) ?_
     refine XS.istore X37.here hx rfl (hb hby at_99) rfl (l' := #[iv p0, iv p1, iv p2, iv p3, iv c0, iv c1, iv c2, rv b6, rv b30, iv 1, iv 1, iv 0, iv 0, .unset, .unset, .unset]) rfl ?_
     refine XS.iload X37.here hx rfl (hb hby at_101) rfl ?_
     refine XS.iconst X37.here hx rfl (hb hby at_103) ?_
     exact kt
    have G141 : ∀ t, Steps p.tables e below (T37.setTop (mkF m 110 #[iv p0, iv p1, iv p2, iv p3, iv c0, iv c1, iv c2, rv b6, rv b30, iv 1, iv 1, iv 0, iv 0, .unset, .unset, .unset] [(.int (1 : Int32)), (.int (2 : Int32))])) t → Steps p.tables e below (s₁.setTop (entryFrame m #[(.int p0), (.int p1), (.int p2), (.int p3)] maxLocals)) t := by
     intro t kt
     refine G140 _ ?_
     refine XS.icmpNo X37.here hx rfl (hb hby at_104) rfl (flt (by decide)).2.2.1 ?_
     refine XS.iconst X37.here hx rfl (hb hby at_107) ?_
     refine XS.iload X37.here hx rfl (hb hby at_108) rfl ?_
     exact kt
    have G142 : ∀ t, Steps p.tables e below (T37.setTop (mkF m 124 #[iv p0, iv p1, iv p2, iv p3, iv c0, iv c1, iv c2, rv b6, rv b30, iv 1, iv 1, iv 0, iv 0, iv 0, .unset, .unset] [(.int (1 : Int32)), (.int (1 : Int32))])) t → Steps p.tables e below (s₁.setTop (entryFrame m #[(.int p0), (.int p1), (.int p2), (.int p3)] maxLocals)) t := by
     intro t kt
     refine G141 _ ?_
     refine XS.icmpYes X37.here hx rfl (pc0 := 110) (pc' := 117) rfl (hb hby at_110) rfl (flt (by decide)).2.1 (by decide) (by decide) ?_
     refine XS.iconst X37.here hx rfl (hb hby at_117) ?_
     refine XS.istore X37.here hx rfl (hb hby at_118) rfl (l' := #[iv p0, iv p1, iv p2, iv p3, iv c0, iv c1, iv c2, rv b6, rv b30, iv 1, iv 1, iv 0, iv 0, iv 0, .unset, .unset]) rfl ?_
     refine XS.iload X37.here hx rfl (hb hby at_120) rfl ?_
     refine XS.iload X37.here hx rfl (hb hby at_122) rfl ?_
     exact kt
    obtain ⟨_, _, ⟨T143, L143, k143, n143⟩, -, X143, ⟨Lc143, hQ143, l143, y143, z143⟩, st143⟩ := Jvm.LawKit.callS X37 hx (y := (⟨"com/example/wary_bearer/warybearer/http/Http1Reader", "isToken", "(Ljava/lang/String;II)Z"⟩ : MethodName)) hown (mvT hZ (hw _ (List.mem_of_getElem? (i := 35) rfl))) (mvT hZ (hw _ (List.mem_of_getElem? (i := 36) rfl))) (mvT hZ (hw _ (List.mem_of_getElem? (i := 37) rfl))) (mvT hZ (hw _ (List.mem_of_getElem? (i := 38) rfl))) (by decide) (backOf (W := 0) (rmTok0 l Z a0 hw [] b30 (1 : Int32) (1 : Int32) T37.heap n0 z41 (by decide)) hZ (hw _ (List.mem_of_getElem? (i := 38) rfl)) (hw _ (List.mem_of_getElem? (i := 37) rfl)) (by decide) (by decide)) (g := (mkF m 179 #[iv p0, iv p1, iv p2, iv p3, iv c0, iv c1, iv c2, rv b6, rv b30, iv 1, iv 1, iv 0, iv 0, iv 0, iv 0, .unset] [(.int (1 : Int32)), (.int (1 : Int32)), (.ref b30)])) rfl (by rw [hml]; rfl) (argsL := [(.ref b30), (.int (1 : Int32)), (.int (1 : Int32))]) (rest := []) (lenOf pd_15 rfl) rfl (by show 2 * 0 + _ ≤ _; exact Nat.le_of_eq rfl) (hb hby at_179) (fun _ _ => ⟨rfl, rfl, (by decide : 4 + 0 ≤ _), (by decide : 16 + 0 ≤ _)⟩)
    dsimp only [Pt.U, Pt.locs, Pt.cells, Pt.slots] at X143 l143 y143 z143 st143 hQ143
    subst l143 y143 z143
    obtain ⟨rfl, N143q, eh143⟩ := hQ143
    have N143 := Fr.app N37 N143q
    have G144 : ∀ t, Steps p.tables e below (T143.setTop (mkF m 188 #[iv p0, iv p1, iv p2, iv p3, iv c0, iv c1, iv c2, rv b6, rv b30, iv 1, iv 1, iv 0, iv 0, iv 0, iv 0, iv 0] [(.int (0 : Int32)), (.int (0 : Int32))])) t → Steps p.tables e below (s₁.setTop (entryFrame m #[(.int p0), (.int p1), (.int p2), (.int p3)] maxLocals)) t := by
     intro t kt
     refine G142 _ ?_
     refine XS.icmpYes X37.here hx rfl (pc0 := 124) (pc' := 170) rfl (hb hby at_124) rfl (flt (by decide)).2.1 (by decide) (by decide) ?_
     refine XS.iconst X37.here hx rfl (hb hby at_170) ?_
     refine XS.istore X37.here hx rfl (hb hby at_171) rfl (l' := #[iv p0, iv p1, iv p2, iv p3, iv c0, iv c1, iv c2, rv b6, rv b30, iv 1, iv 1, iv 0, iv 0, iv 0, iv 0, .unset]) rfl ?_
     refine XS.aload X37.here hx rfl (hb hby at_173) rfl rfl ?_
     show Steps p.tables e below (T37.setTop (mkF m 175 #[iv p0, iv p1, iv p2, iv p3, iv c0, iv c1, iv c2, rv b6, rv b30, iv 1, iv 1, iv 0, iv 0, iv 0, iv 0, .unset] [(.ref b30)])) _
     refine XS.iload X37.here hx rfl (hb hby at_175) rfl ?_
     refine XS.iload X37.here hx rfl (hb hby at_177) rfl ?_
     refine st143 _ ?_
     refine XS.istore X143.here hx rfl (hb hby at_182) rfl (l' := #[iv p0, iv p1, iv p2, iv p3, iv c0, iv c1, iv c2, rv b6, rv b30, iv 1, iv 1, iv 0, iv 0, iv 0, iv 0, iv 0]) rfl ?_
     refine XS.iload X143.here hx rfl (hb hby at_184) rfl ?_
     refine XS.iload X143.here hx rfl (hb hby at_186) rfl ?_
     exact kt
    obtain ⟨fs, hr, hrun, hended, hW, hsame⟩ := X143.leave (v := some (.int (1 : Int32))) (fun h => by rw [Bd.returns] at h; cases h)
    refine ⟨_, _, G144 _ ?_, hrun, hended, _, _, rfl, ?_, ⟨_, rfl⟩, hW, hsame.mono (by decide) (by decide)⟩
    ·skip
     refine XS.icmpNo X143.here hx rfl (hb hby at_188) rfl (teq (by decide)).2 ?_
     refine XS.iconst X143.here hx rfl (hb hby at_191) ?_
     refine XS.goto X143.here hx rfl (pc0 := 192) (pc' := 196) rfl (hb hby at_192) (by decide) (by decide) ?_
     exact retN X143 hx (t := .boolean) Bd.returns (by simp) (hb hby at_196) hr
    ·show Q0 Z p0 p1 p2 p3 tt ct cst fv h0 n0 _ T143.heap _
     rw [eh143]
     exact ⟨rfl, N143⟩
   ·skip
    have G145 : ∀ t, Steps p.tables e below (T37.setTop (mkF m 66 #[iv p0, iv p1, iv p2, iv p3, iv c0, iv c1, iv c2, rv b6, rv b30, iv 1, iv 2, .unset, .unset, .unset, .unset, .unset] [(.int (1 : Int32))])) t → Steps p.tables e below (s₁.setTop (entryFrame m #[(.int p0), (.int p1), (.int p2), (.int p3)] maxLocals)) t := by
     intro t kt
     refine G44 _ ?_
     show Steps p.tables e below (T37.setTop (mkF m 64 #[iv p0, iv p1, iv p2, iv p3, iv c0, iv c1, iv c2, rv b6, rv b30, iv 1, iv 2, .unset, .unset, .unset, .unset, .unset] [])) _
     refine XS.iload X37.here hx rfl (hb hby at_64) rfl ?_
     exact kt
    have G146 : ∀ t, Steps p.tables e below (T37.setTop (mkF m 85 #[iv p0, iv p1, iv p2, iv p3, iv c0, iv c1, iv c2, rv b6, rv b30, iv 1, iv 2, iv 0, .unset, .unset, .unset, .unset] [(.int (1 : Int32)), (.int (1 : Int32))])) t → Steps p.tables e below (s₁.setTop (entryFrame m #[(.int p0), (.int p1), (.int p2), (.int p3)] maxLocals)) t := by
     intro t kt
     refine G145 _ ?_
     refine XS.ifYes X37.here hx rfl (pc0 := 66) (pc' := 79) rfl (hb hby at_66) rfl ((if0 _ _).trans (tlt (by decide)).2.2.1) (by decide) (by decide) ?_
     refine XS.iconst X37.here hx rfl (hb hby at_79) ?_
     refine XS.istore X37.here hx rfl (hb hby at_80) rfl (l' := #[iv p0, iv p1, iv p2, iv p3, iv c0, iv c1, iv c2, rv b6, rv b30, iv 1, iv 2, iv 0, .unset, .unset, .unset, .unset]) rfl ?_
     refine XS.iload X37.here hx rfl (hb hby at_82) rfl ?_
     refine XS.iconst X37.here hx rfl (hb hby at_84) ?_
     exact kt
    have G147 : ∀ t, Steps p.tables e below (T37.setTop (mkF m 91 #[iv p0, iv p1, iv p2, iv p3, iv c0, iv c1, iv c2, rv b6, rv b30, iv 1, iv 2, iv 0, .unset, .unset, .unset, .unset] [(.int (2 : Int32)), (.int (1 : Int32))])) t → Steps p.tables e below (s₁.setTop (entryFrame m #[(.int p0), (.int p1), (.int p2), (.int p3)] maxLocals)) t := by
     intro t kt
     refine G146 _ ?_
     refine XS.icmpNo X37.here hx rfl (hb hby at_85) rfl (flt (by decide)).2.2.1 ?_
     refine XS.iconst X37.here hx rfl (hb hby at_88) ?_
     refine XS.iload X37.here hx rfl (hb hby at_89) rfl ?_
     exact kt
    have G148 : ∀ t, Steps p.tables e below (T37.setTop (mkF m 104 #[iv p0, iv p1, iv p2, iv p3, iv c0, iv c1, iv c2, rv b6, rv b30, iv 1, iv 2, iv 0, iv 1, .unset, .unset, .unset] [(.int (2 : Int32)), (.int (1 : Int32))])) t → Steps p.tables e below (s₁.setTop (entryFrame m #[(.int p0), (.int p1), (.int p2), (.int p3)] maxLocals)) t := by
     intro t kt
     refine G147 _ ?_
     refine XS.icmpNo X37.here hx rfl (hb hby at_91) rfl (tlt (by decide)).2.1 ?_
     refine XS.iconst X37.here hx rfl (hb hby at_94) ?_
     refine XS.goto X37.here hx rfl (pc0 := 95) (pc' := 99) rfl (hb hby at_95) (by decide) (by decide) ?_
     refine XS.istore X37.here hx rfl (hb hby at_99) rfl (l' := #[iv p0, iv p1, iv p2, iv p3, iv c0, iv c1, iv c2, rv b6, rv b30, iv 1, iv 2, iv 0, iv 1, .unset, .unset, .unset]) rfl ?_
     refine XS.iload X37.here hx rfl (hb hby at_101) rfl ?_
     refine XS.iconst X37.here hx rfl (hb hby at_103) ?_
     exact kt
    have G149 : ∀ t, Steps p.tables e below (T37.setTop (mkF m 110 #[iv p0, iv p1, iv p2, iv p3, iv c0, iv c1, iv c2, rv b6, rv b30, iv 1, iv 2, iv 0, iv 1, .unset, .unset, .unset] [(.int (2 : Int32)), (.int (2 : Int32))])) t → Steps p.tables e below (s₁.setTop (entryFrame m #[(.int p0), (.int p1), (.int p2), (.int p3)] maxLocals)) t := by
     intro t kt
     refine G148 _ ?_
     refine XS.icmpNo X37.here hx rfl (hb hby at_104) rfl (flt (by decide)).2.2.1 ?_
     refine XS.iconst X37.here hx rfl (hb hby at_107) ?_
     refine XS.iload X37.here hx rfl (hb hby at_108) rfl ?_
     exact kt
    have G150 : ∀ t, Steps p.tables e below (T37.setTop (mkF m 124 #[iv p0, iv p1, iv p2, iv p3, iv c0, iv c1, iv c2, rv b6, rv b30, iv 1, iv 2, iv 0, iv 1, iv 0, .unset, .unset] [(.int (2 : Int32)), (.int (1 : Int32))])) t → Steps p.tables e below (s₁.setTop (entryFrame m #[(.int p0), (.int p1), (.int p2), (.int p3)] maxLocals)) t := by
     intro t kt
     refine G149 _ ?_
     refine XS.icmpYes X37.here hx rfl (pc0 := 110) (pc' := 117) rfl (hb hby at_110) rfl (flt (by decide)).2.1 (by decide) (by decide) ?_
     refine XS.iconst X37.here hx rfl (hb hby at_117) ?_
     refine XS.istore X37.here hx rfl (hb hby at_118) rfl (l' := #[iv p0, iv p1, iv p2, iv p3, iv c0, iv c1, iv c2, rv b6, rv b30, iv 1, iv 2, iv 0, iv 1, iv 0, .unset, .unset]) rfl ?_
     refine XS.iload X37.here hx rfl (hb hby at_120) rfl ?_
     refine XS.iload X37.here hx rfl (hb hby at_122) rfl ?_
     exact kt
    have G151 : ∀ t, Steps p.tables e below (T37.setTop (mkF m 129 #[iv p0, iv p1, iv p2, iv p3, iv c0, iv c1, iv c2, rv b6, rv b30, iv 1, iv 2, iv 0, iv 1, iv 0, .unset, .unset] [(.int (0 : Int32))])) t → Steps p.tables e below (s₁.setTop (entryFrame m #[(.int p0), (.int p1), (.int p2), (.int p3)] maxLocals)) t := by
     intro t kt
     refine G150 _ ?_
     refine XS.icmpNo X37.here hx rfl (hb hby at_124) rfl (tlt (by decide)).2.1 ?_
     refine XS.iload X37.here hx rfl (hb hby at_127) rfl ?_
     exact kt
    have G152 : ∀ t, Steps p.tables e below (T37.setTop (mkF m 142 #[iv p0, iv p1, iv p2, iv p3, iv c0, iv c1, iv c2, rv b6, rv b30, iv 1, iv 2, iv 0, iv 1, iv 0, .unset, .unset] [(.int (1 : Int32))])) t → Steps p.tables e below (s₁.setTop (entryFrame m #[(.int p0), (.int p1), (.int p2), (.int p3)] maxLocals)) t := by
     intro t kt
     refine G151 _ ?_
     refine XS.ifYes X37.here hx rfl (pc0 := 129) (pc' := 140) rfl (hb hby at_129) rfl ((if0 _ _).trans (teq (by decide)).1) (by decide) (by decide) ?_
     refine XS.iload X37.here hx rfl (hb hby at_140) rfl ?_
     exact kt
    obtain ⟨_, _, ⟨T153, L153, k153, n153⟩, -, X153, ⟨Lc153, hQ153, l153, y153, z153⟩, st153⟩ := Jvm.LawKit.callS X37 hx (y := (⟨"com/example/wary_bearer/warybearer/http/Http1ReaderIsTokenPinLaw", "isT", "(C)Z"⟩ : MethodName)) hown (mvT hZ (hw _ (List.mem_of_getElem? (i := 59) rfl))) (mvT hZ (hw _ (List.mem_of_getElem? (i := 60) rfl))) (mvT hZ (hw _ (List.mem_of_getElem? (i := 2) rfl))) (mvT hZ (hw _ (List.mem_of_getElem? (i := 61) rfl))) (by decide) (backOf (W := 0) (rm14 l Z a0 hw [] c1  T37.heap n0 z41 ) hZ (hw _ (List.mem_of_getElem? (i := 61) rfl)) (hw _ (List.mem_of_getElem? (i := 2) rfl)) (by decide) (by decide)) (g := (mkF m 147 #[iv p0, iv p1, iv p2, iv p3, iv c0, iv c1, iv c2, rv b6, rv b30, iv 1, iv 2, iv 0, iv 1, iv 0, .unset, .unset] [(.int c1)])) rfl (by rw [hml]; rfl) (argsL := [(.int c1)]) (rest := []) (lenOf pd_16 rfl) rfl (by show 2 * 0 + _ ≤ _; exact Nat.le_of_eq rfl) (hb hby at_147) (fun _ _ => ⟨rfl, rfl, (by decide : 4 + 0 ≤ _), (by decide : 16 + 0 ≤ _)⟩)
    dsimp only [Pt.U, Pt.locs, Pt.cells, Pt.slots] at X153 l153 y153 z153 st153 hQ153
    subst l153 y153 z153
    obtain ⟨rfl, N153q, eh153⟩ := hQ153
    have N153 := Fr.app N37 N153q
    have G154 : ∀ t, Steps p.tables e below (T153.setTop (mkF m 150 #[iv p0, iv p1, iv p2, iv p3, iv c0, iv c1, iv c2, rv b6, rv b30, iv 1, iv 2, iv 0, iv 1, iv 0, .unset, .unset] [(.int (fisT c1))])) t → Steps p.tables e below (s₁.setTop (entryFrame m #[(.int p0), (.int p1), (.int p2), (.int p3)] maxLocals)) t := by
     intro t kt
     refine G152 _ ?_
     refine XS.ifNo X37.here hx rfl (hb hby at_142) rfl ((if0 _ _).trans (feq (by decide)).1) ?_
     show Steps p.tables e below (T37.setTop (mkF m 145 #[iv p0, iv p1, iv p2, iv p3, iv c0, iv c1, iv c2, rv b6, rv b30, iv 1, iv 2, iv 0, iv 1, iv 0, .unset, .unset] [])) _
     refine XS.iload X37.here hx rfl (hb hby at_145) rfl ?_
     refine st153 _ ?_
     exact kt
    by_cases hc150_155 : (fisT c1) = (0 : Int32)
    ·skip
     obtain ⟨_, _, ⟨T156, L156, k156, n156⟩, -, X156, ⟨Lc156, hQ156, l156, y156, z156⟩, st156⟩ := Jvm.LawKit.callS X153 hx (y := (⟨"com/example/wary_bearer/warybearer/http/Http1Reader", "isToken", "(Ljava/lang/String;II)Z"⟩ : MethodName)) hown (mvT hZ (hw _ (List.mem_of_getElem? (i := 35) rfl))) (mvT hZ (hw _ (List.mem_of_getElem? (i := 36) rfl))) (mvT hZ (hw _ (List.mem_of_getElem? (i := 37) rfl))) (mvT hZ (hw _ (List.mem_of_getElem? (i := 38) rfl))) (by decide) (backOf (W := 0) (rmTokL12 l Z a0 hw [] b30 c0 c1 c2 ta37 kb37 tt ct cst fv T37.heap n0 z41 A37 Fc37 Fv37 V37 fa38 hb0 hb1 hb2 hq37.1 hq37.2.1 hq37.2.2 TS TA TS2 TV SS) hZ (hw _ (List.mem_of_getElem? (i := 38) rfl)) (hw _ (List.mem_of_getElem? (i := 37) rfl)) (by decide) (by decide)) (g := (mkF m 179 #[iv p0, iv p1, iv p2, iv p3, iv c0, iv c1, iv c2, rv b6, rv b30, iv 1, iv 2, iv 0, iv 1, iv 0, iv 0, .unset] [(.int (2 : Int32)), (.int (1 : Int32)), (.ref b30)])) rfl (by rw [hml]; rfl) (argsL := [(.ref b30), (.int (1 : Int32)), (.int (2 : Int32))]) (rest := []) (lenOf pd_15 rfl) rfl (by show 2 * 0 + _ ≤ _; exact Nat.le_of_eq rfl) (hb hby at_179) (fun _ _ => ⟨rfl, eh153, (by decide : 4 + 0 ≤ _), (by decide : 16 + 0 ≤ _)⟩)
     dsimp only [Pt.U, Pt.locs, Pt.cells, Pt.slots] at X156 l156 y156 z156 st156 hQ156
     subst l156 y156 z156
     obtain ⟨rfl, N156q, eh156⟩ := hQ156
     have N156 := Fr.app N153 N156q
     have G157 : ∀ t, Steps p.tables e below (T156.setTop (mkF m 188 #[iv p0, iv p1, iv p2, iv p3, iv c0, iv c1, iv c2, rv b6, rv b30, iv 1, iv 2, iv 0, iv 1, iv 0, iv 0, iv (own_tok [c1])] [(.int (0 : Int32)), (.int (own_tok [c1]))])) t → Steps p.tables e below (s₁.setTop (entryFrame m #[(.int p0), (.int p1), (.int p2), (.int p3)] maxLocals)) t := by
      intro t kt
      refine G154 _ ?_
      refine XS.ifYes X153.here hx rfl (pc0 := 150) (pc' := 170) rfl (hb hby at_150) rfl ((if0 _ _).trans (teq hc150_155).1) (by decide) (by decide) ?_
      refine XS.iconst X153.here hx rfl (hb hby at_170) ?_
      refine XS.istore X153.here hx rfl (hb hby at_171) rfl (l' := #[iv p0, iv p1, iv p2, iv p3, iv c0, iv c1, iv c2, rv b6, rv b30, iv 1, iv 2, iv 0, iv 1, iv 0, iv 0, .unset]) rfl ?_
      refine XS.aload X153.here hx rfl (hb hby at_173) rfl rfl ?_
      refine XS.iload X153.here hx rfl (hb hby at_175) rfl ?_
      refine XS.iload X153.here hx rfl (hb hby at_177) rfl ?_
      refine st156 _ ?_
      refine XS.istore X156.here hx rfl (hb hby at_182) rfl (l' := #[iv p0, iv p1, iv p2, iv p3, iv c0, iv c1, iv c2, rv b6, rv b30, iv 1, iv 2, iv 0, iv 1, iv 0, iv 0, iv (own_tok [c1])]) rfl ?_
      refine XS.iload X156.here hx rfl (hb hby at_184) rfl ?_
      refine XS.iload X156.here hx rfl (hb hby at_186) rfl ?_
      exact kt
     have hc188_158 : (own_tok [c1]) = (0 : Int32) := by rw [own_tok, if_pos hc150_155]
     obtain ⟨fs, hr, hrun, hended, hW, hsame⟩ := X156.leave (v := some (.int (1 : Int32))) (fun h => by rw [Bd.returns] at h; cases h)
     refine ⟨_, _, G157 _ ?_, hrun, hended, _, _, rfl, ?_, ⟨_, rfl⟩, hW, hsame.mono (by decide) (by decide)⟩
     ·skip
      refine XS.icmpNo X156.here hx rfl (hb hby at_188) rfl (teq hc188_158).2 ?_
      refine XS.iconst X156.here hx rfl (hb hby at_191) ?_
      refine XS.goto X156.here hx rfl (pc0 := 192) (pc' := 196) rfl (hb hby at_192) (by decide) (by decide) ?_
      exact retN X156 hx (t := .boolean) Bd.returns (by simp) (hb hby at_196) hr
     ·show Q0 Z p0 p1 p2 p3 tt ct cst fv h0 n0 _ T156.heap _
      rw [eh156]
      exact ⟨rfl, N156⟩
    ·skip
     have G159 : ∀ t, Steps p.tables e below (T153.setTop (mkF m 155 #[iv p0, iv p1, iv p2, iv p3, iv c0, iv c1, iv c2, rv b6, rv b30, iv 1, iv 2, iv 0, iv 1, iv 0, .unset, .unset] [(.int (0 : Int32))])) t → Steps p.tables e below (s₁.setTop (entryFrame m #[(.int p0), (.int p1), (.int p2), (.int p3)] maxLocals)) t := by
      intro t kt
      refine G154 _ ?_
      refine XS.ifNo X153.here hx rfl (hb hby at_150) rfl ((if0 _ _).trans (feq hc150_155).1) ?_
      refine XS.iload X153.here hx rfl (hb hby at_153) rfl ?_
      exact kt
     obtain ⟨_, _, ⟨T160, L160, k160, n160⟩, -, X160, ⟨Lc160, hQ160, l160, y160, z160⟩, st160⟩ := Jvm.LawKit.callS X153 hx (y := (⟨"com/example/wary_bearer/warybearer/http/Http1Reader", "isToken", "(Ljava/lang/String;II)Z"⟩ : MethodName)) hown (mvT hZ (hw _ (List.mem_of_getElem? (i := 35) rfl))) (mvT hZ (hw _ (List.mem_of_getElem? (i := 36) rfl))) (mvT hZ (hw _ (List.mem_of_getElem? (i := 37) rfl))) (mvT hZ (hw _ (List.mem_of_getElem? (i := 38) rfl))) (by decide) (backOf (W := 0) (rmTokL12 l Z a0 hw [] b30 c0 c1 c2 ta37 kb37 tt ct cst fv T37.heap n0 z41 A37 Fc37 Fv37 V37 fa38 hb0 hb1 hb2 hq37.1 hq37.2.1 hq37.2.2 TS TA TS2 TV SS) hZ (hw _ (List.mem_of_getElem? (i := 38) rfl)) (hw _ (List.mem_of_getElem? (i := 37) rfl)) (by decide) (by decide)) (g := (mkF m 179 #[iv p0, iv p1, iv p2, iv p3, iv c0, iv c1, iv c2, rv b6, rv b30, iv 1, iv 2, iv 0, iv 1, iv 0, iv 1, .unset] [(.int (2 : Int32)), (.int (1 : Int32)), (.ref b30)])) rfl (by rw [hml]; rfl) (argsL := [(.ref b30), (.int (1 : Int32)), (.int (2 : Int32))]) (rest := []) (lenOf pd_15 rfl) rfl (by show 2 * 0 + _ ≤ _; exact Nat.le_of_eq rfl) (hb hby at_179) (fun _ _ => ⟨rfl, eh153, (by decide : 4 + 0 ≤ _), (by decide : 16 + 0 ≤ _)⟩)
     dsimp only [Pt.U, Pt.locs, Pt.cells, Pt.slots] at X160 l160 y160 z160 st160 hQ160
     subst l160 y160 z160
     obtain ⟨rfl, N160q, eh160⟩ := hQ160
     have N160 := Fr.app N153 N160q
     have G161 : ∀ t, Steps p.tables e below (T160.setTop (mkF m 188 #[iv p0, iv p1, iv p2, iv p3, iv c0, iv c1, iv c2, rv b6, rv b30, iv 1, iv 2, iv 0, iv 1, iv 0, iv 1, iv (own_tok [c1])] [(.int (1 : Int32)), (.int (own_tok [c1]))])) t → Steps p.tables e below (s₁.setTop (entryFrame m #[(.int p0), (.int p1), (.int p2), (.int p3)] maxLocals)) t := by
      intro t kt
      refine G159 _ ?_
      refine XS.ifYes X153.here hx rfl (pc0 := 155) (pc' := 166) rfl (hb hby at_155) rfl ((if0 _ _).trans (teq (by decide)).1) (by decide) (by decide) ?_
      refine XS.iconst X153.here hx rfl (hb hby at_166) ?_
      refine XS.goto X153.here hx rfl (pc0 := 167) (pc' := 171) rfl (hb hby at_167) (by decide) (by decide) ?_
      refine XS.istore X153.here hx rfl (hb hby at_171) rfl (l' := #[iv p0, iv p1, iv p2, iv p3, iv c0, iv c1, iv c2, rv b6, rv b30, iv 1, iv 2, iv 0, iv 1, iv 0, iv 1, .unset]) rfl ?_
      refine XS.aload X153.here hx rfl (hb hby at_173) rfl rfl ?_
      refine XS.iload X153.here hx rfl (hb hby at_175) rfl ?_
      refine XS.iload X153.here hx rfl (hb hby at_177) rfl ?_
      refine st160 _ ?_
      refine XS.istore X160.here hx rfl (hb hby at_182) rfl (l' := #[iv p0, iv p1, iv p2, iv p3, iv c0, iv c1, iv c2, rv b6, rv b30, iv 1, iv 2, iv 0, iv 1, iv 0, iv 1, iv (own_tok [c1])]) rfl ?_
      refine XS.iload X160.here hx rfl (hb hby at_184) rfl ?_
      refine XS.iload X160.here hx rfl (hb hby at_186) rfl ?_
      exact kt
     have hc188_162 : (own_tok [c1]) = (1 : Int32) := by rw [own_tok, if_neg hc150_155, own_tok]
     obtain ⟨fs, hr, hrun, hended, hW, hsame⟩ := X160.leave (v := some (.int (1 : Int32))) (fun h => by rw [Bd.returns] at h; cases h)
     refine ⟨_, _, G161 _ ?_, hrun, hended, _, _, rfl, ?_, ⟨_, rfl⟩, hW, hsame.mono (by decide) (by decide)⟩
     ·skip
      refine XS.icmpNo X160.here hx rfl (hb hby at_188) rfl (teq hc188_162).2 ?_
      refine XS.iconst X160.here hx rfl (hb hby at_191) ?_
      refine XS.goto X160.here hx rfl (pc0 := 192) (pc' := 196) rfl (hb hby at_192) (by decide) (by decide) ?_
      exact retN X160 hx (t := .boolean) Bd.returns (by simp) (hb hby at_196) hr
     ·show Q0 Z p0 p1 p2 p3 tt ct cst fv h0 n0 _ T160.heap _
      rw [eh160]
      exact ⟨rfl, N160⟩
   ·skip
    have G163 : ∀ t, Steps p.tables e below (T37.setTop (mkF m 66 #[iv p0, iv p1, iv p2, iv p3, iv c0, iv c1, iv c2, rv b6, rv b30, iv 1, iv 3, .unset, .unset, .unset, .unset, .unset] [(.int (1 : Int32))])) t → Steps p.tables e below (s₁.setTop (entryFrame m #[(.int p0), (.int p1), (.int p2), (.int p3)] maxLocals)) t := by
     intro t kt
     refine G44 _ ?_
     show Steps p.tables e below (T37.setTop (mkF m 64 #[iv p0, iv p1, iv p2, iv p3, iv c0, iv c1, iv c2, rv b6, rv b30, iv 1, iv 3, .unset, .unset, .unset, .unset, .unset] [])) _
     refine XS.iload X37.here hx rfl (hb hby at_64) rfl ?_
     exact kt
    have G164 : ∀ t, Steps p.tables e below (T37.setTop (mkF m 85 #[iv p0, iv p1, iv p2, iv p3, iv c0, iv c1, iv c2, rv b6, rv b30, iv 1, iv 3, iv 0, .unset, .unset, .unset, .unset] [(.int (1 : Int32)), (.int (1 : Int32))])) t → Steps p.tables e below (s₁.setTop (entryFrame m #[(.int p0), (.int p1), (.int p2), (.int p3)] maxLocals)) t := by
     intro t kt
     refine G163 _ ?_
     refine XS.ifYes X37.here hx rfl (pc0 := 66) (pc' := 79) rfl (hb hby at_66) rfl ((if0 _ _).trans (tlt (by decide)).2.2.1) (by decide) (by decide) ?_
     refine XS.iconst X37.here hx rfl (hb hby at_79) ?_
     refine XS.istore X37.here hx rfl (hb hby at_80) rfl (l' := #[iv p0, iv p1, iv p2, iv p3, iv c0, iv c1, iv c2, rv b6, rv b30, iv 1, iv 3, iv 0, .unset, .unset, .unset, .unset]) rfl ?_
     refine XS.iload X37.here hx rfl (hb hby at_82) rfl ?_
     refine XS.iconst X37.here hx rfl (hb hby at_84) ?_
     exact kt
    have G165 : ∀ t, Steps p.tables e below (T37.setTop (mkF m 91 #[iv p0, iv p1, iv p2, iv p3, iv c0, iv c1, iv c2, rv b6, rv b30, iv 1, iv 3, iv 0, .unset, .unset, .unset, .unset] [(.int (3 : Int32)), (.int (1 : Int32))])) t → Steps p.tables e below (s₁.setTop (entryFrame m #[(.int p0), (.int p1), (.int p2), (.int p3)] maxLocals)) t := by
     intro t kt
     refine G164 _ ?_
     refine XS.icmpNo X37.here hx rfl (hb hby at_85) rfl (flt (by decide)).2.2.1 ?_
     refine XS.iconst X37.here hx rfl (hb hby at_88) ?_
     refine XS.iload X37.here hx rfl (hb hby at_89) rfl ?_
     exact kt
    have G166 : ∀ t, Steps p.tables e below (T37.setTop (mkF m 104 #[iv p0, iv p1, iv p2, iv p3, iv c0, iv c1, iv c2, rv b6, rv b30, iv 1, iv 3, iv 0, iv 1, .unset, .unset, .unset] [(.int (2 : Int32)), (.int (1 : Int32))])) t → Steps p.tables e below (s₁.setTop (entryFrame m #[(.int p0), (.int p1), (.int p2), (.int p3)] maxLocals)) t := by
     intro t kt
     refine G165 _ ?_
     refine XS.icmpNo X37.here hx rfl (hb hby at_91) rfl (tlt (by decide)).2.1 ?_
     refine XS.iconst X37.here hx rfl (hb hby at_94) ?_
     refine XS.goto X37.here hx rfl (pc0 := 95) (pc' := 99) rfl (hb hby at_95) (by decide) (by decide) ?_
     refine XS.istore X37.here hx rfl (hb hby at_99) rfl (l' := #[iv p0, iv p1, iv p2, iv p3, iv c0, iv c1, iv c2, rv b6, rv b30, iv 1, iv 3, iv 0, iv 1, .unset, .unset, .unset]) rfl ?_
     refine XS.iload X37.here hx rfl (hb hby at_101) rfl ?_
     refine XS.iconst X37.here hx rfl (hb hby at_103) ?_
     exact kt
    have G167 : ∀ t, Steps p.tables e below (T37.setTop (mkF m 110 #[iv p0, iv p1, iv p2, iv p3, iv c0, iv c1, iv c2, rv b6, rv b30, iv 1, iv 3, iv 0, iv 1, .unset, .unset, .unset] [(.int (3 : Int32)), (.int (2 : Int32))])) t → Steps p.tables e below (s₁.setTop (entryFrame m #[(.int p0), (.int p1), (.int p2), (.int p3)] maxLocals)) t := by
     intro t kt
     refine G166 _ ?_
     refine XS.icmpNo X37.here hx rfl (hb hby at_104) rfl (flt (by decide)).2.2.1 ?_
     refine XS.iconst X37.here hx rfl (hb hby at_107) ?_
     refine XS.iload X37.here hx rfl (hb hby at_108) rfl ?_
     exact kt
    have G168 : ∀ t, Steps p.tables e below (T37.setTop (mkF m 124 #[iv p0, iv p1, iv p2, iv p3, iv c0, iv c1, iv c2, rv b6, rv b30, iv 1, iv 3, iv 0, iv 1, iv 1, .unset, .unset] [(.int (3 : Int32)), (.int (1 : Int32))])) t → Steps p.tables e below (s₁.setTop (entryFrame m #[(.int p0), (.int p1), (.int p2), (.int p3)] maxLocals)) t := by
     intro t kt
     refine G167 _ ?_
     refine XS.icmpNo X37.here hx rfl (hb hby at_110) rfl (tlt (by decide)).2.1 ?_
     refine XS.iconst X37.here hx rfl (hb hby at_113) ?_
     refine XS.goto X37.here hx rfl (pc0 := 114) (pc' := 118) rfl (hb hby at_114) (by decide) (by decide) ?_
     refine XS.istore X37.here hx rfl (hb hby at_118) rfl (l' := #[iv p0, iv p1, iv p2, iv p3, iv c0, iv c1, iv c2, rv b6, rv b30, iv 1, iv 3, iv 0, iv 1, iv 1, .unset, .unset]) rfl ?_
     refine XS.iload X37.here hx rfl (hb hby at_120) rfl ?_
     refine XS.iload X37.here hx rfl (hb hby at_122) rfl ?_
     exact kt
    have G169 : ∀ t, Steps p.tables e below (T37.setTop (mkF m 129 #[iv p0, iv p1, iv p2, iv p3, iv c0, iv c1, iv c2, rv b6, rv b30, iv 1, iv 3, iv 0, iv 1, iv 1, .unset, .unset] [(.int (0 : Int32))])) t → Steps p.tables e below (s₁.setTop (entryFrame m #[(.int p0), (.int p1), (.int p2), (.int p3)] maxLocals)) t := by
     intro t kt
     refine G168 _ ?_
     refine XS.icmpNo X37.here hx rfl (hb hby at_124) rfl (tlt (by decide)).2.1 ?_
     refine XS.iload X37.here hx rfl (hb hby at_127) rfl ?_
     exact kt
    have G170 : ∀ t, Steps p.tables e below (T37.setTop (mkF m 142 #[iv p0, iv p1, iv p2, iv p3, iv c0, iv c1, iv c2, rv b6, rv b30, iv 1, iv 3, iv 0, iv 1, iv 1, .unset, .unset] [(.int (1 : Int32))])) t → Steps p.tables e below (s₁.setTop (entryFrame m #[(.int p0), (.int p1), (.int p2), (.int p3)] maxLocals)) t := by
     intro t kt
     refine G169 _ ?_
     refine XS.ifYes X37.here hx rfl (pc0 := 129) (pc' := 140) rfl (hb hby at_129) rfl ((if0 _ _).trans (teq (by decide)).1) (by decide) (by decide) ?_
     show Steps p.tables e below (T37.setTop (mkF m 140 #[iv p0, iv p1, iv p2, iv p3, iv c0, iv c1, iv c2, rv b6, rv b30, iv 1, iv 3, iv 0, iv 1, iv 1, .unset, .unset] [])) _
     refine XS.iload X37.here hx rfl (hb hby at_140) rfl ?_
     exact kt
    obtain ⟨_, _, ⟨T171, L171, k171, n171⟩, -, X171, ⟨Lc171, hQ171, l171, y171, z171⟩, st171⟩ := Jvm.LawKit.callS X37 hx (y := (⟨"com/example/wary_bearer/warybearer/http/Http1ReaderIsTokenPinLaw", "isT", "(C)Z"⟩ : MethodName)) hown (mvT hZ (hw _ (List.mem_of_getElem? (i := 59) rfl))) (mvT hZ (hw _ (List.mem_of_getElem? (i := 60) rfl))) (mvT hZ (hw _ (List.mem_of_getElem? (i := 2) rfl))) (mvT hZ (hw _ (List.mem_of_getElem? (i := 61) rfl))) (by decide) (backOf (W := 0) (rm14 l Z a0 hw [] c1  T37.heap n0 z41 ) hZ (hw _ (List.mem_of_getElem? (i := 61) rfl)) (hw _ (List.mem_of_getElem? (i := 2) rfl)) (by decide) (by decide)) (g := (mkF m 147 #[iv p0, iv p1, iv p2, iv p3, iv c0, iv c1, iv c2, rv b6, rv b30, iv 1, iv 3, iv 0, iv 1, iv 1, .unset, .unset] [(.int c1)])) rfl (by rw [hml]; rfl) (argsL := [(.int c1)]) (rest := []) (lenOf pd_16 rfl) rfl (by show 2 * 0 + _ ≤ _; exact Nat.le_of_eq rfl) (hb hby at_147) (fun _ _ => ⟨rfl, rfl, (by decide : 4 + 0 ≤ _), (by decide : 16 + 0 ≤ _)⟩)
    dsimp only [Pt.U, Pt.locs, Pt.cells, Pt.slots] at X171 l171 y171 z171 st171 hQ171
    subst l171 y171 z171
    obtain ⟨rfl, N171q, eh171⟩ := hQ171
    have N171 := Fr.app N37 N171q
    have G172 : ∀ t, Steps p.tables e below (T171.setTop (mkF m 150 #[iv p0, iv p1, iv p2, iv p3, iv c0, iv c1, iv c2, rv b6, rv b30, iv 1, iv 3, iv 0, iv 1, iv 1, .unset, .unset] [(.int (fisT c1))])) t → Steps p.tables e below (s₁.setTop (entryFrame m #[(.int p0), (.int p1), (.int p2), (.int p3)] maxLocals)) t := by
     intro t kt
     refine G170 _ ?_
     refine XS.ifNo X37.here hx rfl (hb hby at_142) rfl ((if0 _ _).trans (feq (by decide)).1) ?_
     refine XS.iload X37.here hx rfl (hb hby at_145) rfl ?_
     refine st171 _ ?_
     exact kt
    by_cases hc150_173 : (fisT c1) = (0 : Int32)
    ·skip
     obtain ⟨_, _, ⟨T174, L174, k174, n174⟩, -, X174, ⟨Lc174, hQ174, l174, y174, z174⟩, st174⟩ := Jvm.LawKit.callS X171 hx (y := (⟨"com/example/wary_bearer/warybearer/http/Http1Reader", "isToken", "(Ljava/lang/String;II)Z"⟩ : MethodName)) hown (mvT hZ (hw _ (List.mem_of_getElem? (i := 35) rfl))) (mvT hZ (hw _ (List.mem_of_getElem? (i := 36) rfl))) (mvT hZ (hw _ (List.mem_of_getElem? (i := 37) rfl))) (mvT hZ (hw _ (List.mem_of_getElem? (i := 38) rfl))) (by decide) (backOf (W := 0) (rmTokL13 l Z a0 hw [] b30 c0 c1 c2 ta37 kb37 tt ct cst fv T37.heap n0 z41 A37 Fc37 Fv37 V37 fa38 hb0 hb1 hb2 hq37.1 hq37.2.1 hq37.2.2 TS TA TS2 TV SS) hZ (hw _ (List.mem_of_getElem? (i := 38) rfl)) (hw _ (List.mem_of_getElem? (i := 37) rfl)) (by decide) (by decide)) (g := (mkF m 179 #[iv p0, iv p1, iv p2, iv p3, iv c0, iv c1, iv c2, rv b6, rv b30, iv 1, iv 3, iv 0, iv 1, iv 1, iv 0, .unset] [(.int (3 : Int32)), (.int (1 : Int32)), (.ref b30)])) rfl (by rw [hml]; rfl) (argsL := [(.ref b30), (.int (1 : Int32)), (.int (3 : Int32))]) (rest := []) (lenOf pd_15 rfl) rfl (by show 2 * 0 + _ ≤ _; exact Nat.le_of_eq rfl) (hb hby at_179) (fun _ _ => ⟨rfl, eh171, (by decide : 4 + 0 ≤ _), (by decide : 16 + 0 ≤ _)⟩)
     dsimp only [Pt.U, Pt.locs, Pt.cells, Pt.slots] at X174 l174 y174 z174 st174 hQ174
     subst l174 y174 z174
     obtain ⟨rfl, N174q, eh174⟩ := hQ174
     have N174 := Fr.app N171 N174q
     have G175 : ∀ t, Steps p.tables e below (T174.setTop (mkF m 188 #[iv p0, iv p1, iv p2, iv p3, iv c0, iv c1, iv c2, rv b6, rv b30, iv 1, iv 3, iv 0, iv 1, iv 1, iv 0, iv (own_tok [c1, c2])] [(.int (0 : Int32)), (.int (own_tok [c1, c2]))])) t → Steps p.tables e below (s₁.setTop (entryFrame m #[(.int p0), (.int p1), (.int p2), (.int p3)] maxLocals)) t := by
      intro t kt
      refine G172 _ ?_
      refine XS.ifYes X171.here hx rfl (pc0 := 150) (pc' := 170) rfl (hb hby at_150) rfl ((if0 _ _).trans (teq hc150_173).1) (by decide) (by decide) ?_
      refine XS.iconst X171.here hx rfl (hb hby at_170) ?_
      refine XS.istore X171.here hx rfl (hb hby at_171) rfl (l' := #[iv p0, iv p1, iv p2, iv p3, iv c0, iv c1, iv c2, rv b6, rv b30, iv 1, iv 3, iv 0, iv 1, iv 1, iv 0, .unset]) rfl ?_
      refine XS.aload X171.here hx rfl (hb hby at_173) rfl rfl ?_
      refine XS.iload X171.here hx rfl (hb hby at_175) rfl ?_
      refine XS.iload X171.here hx rfl (hb hby at_177) rfl ?_
      refine st174 _ ?_
      refine XS.istore X174.here hx rfl (hb hby at_182) rfl (l' := #[iv p0, iv p1, iv p2, iv p3, iv c0, iv c1, iv c2, rv b6, rv b30, iv 1, iv 3, iv 0, iv 1, iv 1, iv 0, iv (own_tok [c1, c2])]) rfl ?_
      refine XS.iload X174.here hx rfl (hb hby at_184) rfl ?_
      refine XS.iload X174.here hx rfl (hb hby at_186) rfl ?_
      exact kt
     have hc188_176 : (own_tok [c1, c2]) = (0 : Int32) := by rw [own_tok, if_pos hc150_173]
     obtain ⟨fs, hr, hrun, hended, hW, hsame⟩ := X174.leave (v := some (.int (1 : Int32))) (fun h => by rw [Bd.returns] at h; cases h)
     refine ⟨_, _, G175 _ ?_, hrun, hended, _, _, rfl, ?_, ⟨_, rfl⟩, hW, hsame.mono (by decide) (by decide)⟩
     ·skip
      refine XS.icmpNo X174.here hx rfl (hb hby at_188) rfl (teq hc188_176).2 ?_
      refine XS.iconst X174.here hx rfl (hb hby at_191) ?_
      refine XS.goto X174.here hx rfl (pc0 := 192) (pc' := 196) rfl (hb hby at_192) (by decide) (by decide) ?_
      exact retN X174 hx (t := .boolean) Bd.returns (by simp) (hb hby at_196) hr
     ·show Q0 Z p0 p1 p2 p3 tt ct cst fv h0 n0 _ T174.heap _
      rw [eh174]
      exact ⟨rfl, N174⟩
    ·skip
     have G177 : ∀ t, Steps p.tables e below (T171.setTop (mkF m 155 #[iv p0, iv p1, iv p2, iv p3, iv c0, iv c1, iv c2, rv b6, rv b30, iv 1, iv 3, iv 0, iv 1, iv 1, .unset, .unset] [(.int (1 : Int32))])) t → Steps p.tables e below (s₁.setTop (entryFrame m #[(.int p0), (.int p1), (.int p2), (.int p3)] maxLocals)) t := by
      intro t kt
      refine G172 _ ?_
      refine XS.ifNo X171.here hx rfl (hb hby at_150) rfl ((if0 _ _).trans (feq hc150_173).1) ?_
      refine XS.iload X171.here hx rfl (hb hby at_153) rfl ?_
      exact kt
     obtain ⟨_, _, ⟨T178, L178, k178, n178⟩, -, X178, ⟨Lc178, hQ178, l178, y178, z178⟩, st178⟩ := Jvm.LawKit.callS X171 hx (y := (⟨"com/example/wary_bearer/warybearer/http/Http1ReaderIsTokenPinLaw", "isT", "(C)Z"⟩ : MethodName)) hown (mvT hZ (hw _ (List.mem_of_getElem? (i := 59) rfl))) (mvT hZ (hw _ (List.mem_of_getElem? (i := 60) rfl))) (mvT hZ (hw _ (List.mem_of_getElem? (i := 2) rfl))) (mvT hZ (hw _ (List.mem_of_getElem? (i := 61) rfl))) (by decide) (backOf (W := 0) (rm14 l Z a0 hw [] c2  T37.heap n0 z41 ) hZ (hw _ (List.mem_of_getElem? (i := 61) rfl)) (hw _ (List.mem_of_getElem? (i := 2) rfl)) (by decide) (by decide)) (g := (mkF m 160 #[iv p0, iv p1, iv p2, iv p3, iv c0, iv c1, iv c2, rv b6, rv b30, iv 1, iv 3, iv 0, iv 1, iv 1, .unset, .unset] [(.int c2)])) rfl (by rw [hml]; rfl) (argsL := [(.int c2)]) (rest := []) (lenOf pd_16 rfl) rfl (by show 2 * 0 + _ ≤ _; exact Nat.le_of_eq rfl) (hb hby at_160) (fun _ _ => ⟨rfl, eh171, (by decide : 4 + 0 ≤ _), (by decide : 16 + 0 ≤ _)⟩)
     dsimp only [Pt.U, Pt.locs, Pt.cells, Pt.slots] at X178 l178 y178 z178 st178 hQ178
     subst l178 y178 z178
     obtain ⟨rfl, N178q, eh178⟩ := hQ178
     have N178 := Fr.app N171 N178q
     have G179 : ∀ t, Steps p.tables e below (T178.setTop (mkF m 163 #[iv p0, iv p1, iv p2, iv p3, iv c0, iv c1, iv c2, rv b6, rv b30, iv 1, iv 3, iv 0, iv 1, iv 1, .unset, .unset] [(.int (fisT c2))])) t → Steps p.tables e below (s₁.setTop (entryFrame m #[(.int p0), (.int p1), (.int p2), (.int p3)] maxLocals)) t := by
      intro t kt
      refine G177 _ ?_
      refine XS.ifNo X171.here hx rfl (hb hby at_155) rfl ((if0 _ _).trans (feq (by decide)).1) ?_
      refine XS.iload X171.here hx rfl (hb hby at_158) rfl ?_
      refine st178 _ ?_
      exact kt
     by_cases hc163_180 : (fisT c2) = (0 : Int32)
     ·skip
      obtain ⟨_, _, ⟨T181, L181, k181, n181⟩, -, X181, ⟨Lc181, hQ181, l181, y181, z181⟩, st181⟩ := Jvm.LawKit.callS X178 hx (y := (⟨"com/example/wary_bearer/warybearer/http/Http1Reader", "isToken", "(Ljava/lang/String;II)Z"⟩ : MethodName)) hown (mvT hZ (hw _ (List.mem_of_getElem? (i := 35) rfl))) (mvT hZ (hw _ (List.mem_of_getElem? (i := 36) rfl))) (mvT hZ (hw _ (List.mem_of_getElem? (i := 37) rfl))) (mvT hZ (hw _ (List.mem_of_getElem? (i := 38) rfl))) (by decide) (backOf (W := 0) (rmTokL13 l Z a0 hw [] b30 c0 c1 c2 ta37 kb37 tt ct cst fv T37.heap n0 z41 A37 Fc37 Fv37 V37 fa38 hb0 hb1 hb2 hq37.1 hq37.2.1 hq37.2.2 TS TA TS2 TV SS) hZ (hw _ (List.mem_of_getElem? (i := 38) rfl)) (hw _ (List.mem_of_getElem? (i := 37) rfl)) (by decide) (by decide)) (g := (mkF m 179 #[iv p0, iv p1, iv p2, iv p3, iv c0, iv c1, iv c2, rv b6, rv b30, iv 1, iv 3, iv 0, iv 1, iv 1, iv 0, .unset] [(.int (3 : Int32)), (.int (1 : Int32)), (.ref b30)])) rfl (by rw [hml]; rfl) (argsL := [(.ref b30), (.int (1 : Int32)), (.int (3 : Int32))]) (rest := []) (lenOf pd_15 rfl) rfl (by show 2 * 0 + _ ≤ _; exact Nat.le_of_eq rfl) (hb hby at_179) (fun _ _ => ⟨rfl, eh178, (by decide : 4 + 0 ≤ _), (by decide : 16 + 0 ≤ _)⟩)
      dsimp only [Pt.U, Pt.locs, Pt.cells, Pt.slots] at X181 l181 y181 z181 st181 hQ181
      subst l181 y181 z181
      obtain ⟨rfl, N181q, eh181⟩ := hQ181
      have N181 := Fr.app N178 N181q
      have G182 : ∀ t, Steps p.tables e below (T181.setTop (mkF m 188 #[iv p0, iv p1, iv p2, iv p3, iv c0, iv c1, iv c2, rv b6, rv b30, iv 1, iv 3, iv 0, iv 1, iv 1, iv 0, iv (own_tok [c1, c2])] [(.int (0 : Int32)), (.int (own_tok [c1, c2]))])) t → Steps p.tables e below (s₁.setTop (entryFrame m #[(.int p0), (.int p1), (.int p2), (.int p3)] maxLocals)) t := by
       intro t kt
       refine G179 _ ?_
       refine XS.ifYes X178.here hx rfl (pc0 := 163) (pc' := 170) rfl (hb hby at_163) rfl ((if0 _ _).trans (teq hc163_180).1) (by decide) (by decide) ?_
       refine XS.iconst X178.here hx rfl (hb hby at_170) ?_
       refine XS.istore X178.here hx rfl (hb hby at_171) rfl (l' := #[iv p0, iv p1, iv p2, iv p3, iv c0, iv c1, iv c2, rv b6, rv b30, iv 1, iv 3, iv 0, iv 1, iv 1, iv 0, .unset]) rfl ?_
       refine XS.aload X178.here hx rfl (hb hby at_173) rfl rfl ?_
       refine XS.iload X178.here hx rfl (hb hby at_175) rfl ?_
       refine XS.iload X178.here hx rfl (hb hby at_177) rfl ?_
       refine st181 _ ?_
       refine XS.istore X181.here hx rfl (hb hby at_182) rfl (l' := #[iv p0, iv p1, iv p2, iv p3, iv c0, iv c1, iv c2, rv b6, rv b30, iv 1, iv 3, iv 0, iv 1, iv 1, iv 0, iv (own_tok [c1, c2])]) rfl ?_
       refine XS.iload X181.here hx rfl (hb hby at_184) rfl ?_
       refine XS.iload X181.here hx rfl (hb hby at_186) rfl ?_
       exact kt
      have hc188_183 : (own_tok [c1, c2]) = (0 : Int32) := by rw [own_tok, if_neg hc150_173, own_tok, if_pos hc163_180]
      obtain ⟨fs, hr, hrun, hended, hW, hsame⟩ := X181.leave (v := some (.int (1 : Int32))) (fun h => by rw [Bd.returns] at h; cases h)
      refine ⟨_, _, G182 _ ?_, hrun, hended, _, _, rfl, ?_, ⟨_, rfl⟩, hW, hsame.mono (by decide) (by decide)⟩
      ·skip
       refine XS.icmpNo X181.here hx rfl (hb hby at_188) rfl (teq hc188_183).2 ?_
       refine XS.iconst X181.here hx rfl (hb hby at_191) ?_
       refine XS.goto X181.here hx rfl (pc0 := 192) (pc' := 196) rfl (hb hby at_192) (by decide) (by decide) ?_
       exact retN X181 hx (t := .boolean) Bd.returns (by simp) (hb hby at_196) hr
      ·show Q0 Z p0 p1 p2 p3 tt ct cst fv h0 n0 _ T181.heap _
       rw [eh181]
       exact ⟨rfl, N181⟩
     ·skip
      obtain ⟨_, _, ⟨T184, L184, k184, n184⟩, -, X184, ⟨Lc184, hQ184, l184, y184, z184⟩, st184⟩ := Jvm.LawKit.callS X178 hx (y := (⟨"com/example/wary_bearer/warybearer/http/Http1Reader", "isToken", "(Ljava/lang/String;II)Z"⟩ : MethodName)) hown (mvT hZ (hw _ (List.mem_of_getElem? (i := 35) rfl))) (mvT hZ (hw _ (List.mem_of_getElem? (i := 36) rfl))) (mvT hZ (hw _ (List.mem_of_getElem? (i := 37) rfl))) (mvT hZ (hw _ (List.mem_of_getElem? (i := 38) rfl))) (by decide) (backOf (W := 0) (rmTokL13 l Z a0 hw [] b30 c0 c1 c2 ta37 kb37 tt ct cst fv T37.heap n0 z41 A37 Fc37 Fv37 V37 fa38 hb0 hb1 hb2 hq37.1 hq37.2.1 hq37.2.2 TS TA TS2 TV SS) hZ (hw _ (List.mem_of_getElem? (i := 38) rfl)) (hw _ (List.mem_of_getElem? (i := 37) rfl)) (by decide) (by decide)) (g := (mkF m 179 #[iv p0, iv p1, iv p2, iv p3, iv c0, iv c1, iv c2, rv b6, rv b30, iv 1, iv 3, iv 0, iv 1, iv 1, iv 1, .unset] [(.int (3 : Int32)), (.int (1 : Int32)), (.ref b30)])) rfl (by rw [hml]; rfl) (argsL := [(.ref b30), (.int (1 : Int32)), (.int (3 : Int32))]) (rest := []) (lenOf pd_15 rfl) rfl (by show 2 * 0 + _ ≤ _; exact Nat.le_of_eq rfl) (hb hby at_179) (fun _ _ => ⟨rfl, eh178, (by decide : 4 + 0 ≤ _), (by decide : 16 + 0 ≤ _)⟩)
      dsimp only [Pt.U, Pt.locs, Pt.cells, Pt.slots] at X184 l184 y184 z184 st184 hQ184
      subst l184 y184 z184
      obtain ⟨rfl, N184q, eh184⟩ := hQ184
      have N184 := Fr.app N178 N184q
      have G185 : ∀ t, Steps p.tables e below (T184.setTop (mkF m 188 #[iv p0, iv p1, iv p2, iv p3, iv c0, iv c1, iv c2, rv b6, rv b30, iv 1, iv 3, iv 0, iv 1, iv 1, iv 1, iv (own_tok [c1, c2])] [(.int (1 : Int32)), (.int (own_tok [c1, c2]))])) t → Steps p.tables e below (s₁.setTop (entryFrame m #[(.int p0), (.int p1), (.int p2), (.int p3)] maxLocals)) t := by
       intro t kt
       refine G179 _ ?_
       refine XS.ifNo X178.here hx rfl (hb hby at_163) rfl ((if0 _ _).trans (feq hc163_180).1) ?_
       refine XS.iconst X178.here hx rfl (hb hby at_166) ?_
       refine XS.goto X178.here hx rfl (pc0 := 167) (pc' := 171) rfl (hb hby at_167) (by decide) (by decide) ?_
       refine XS.istore X178.here hx rfl (hb hby at_171) rfl (l' := #[iv p0, iv p1, iv p2, iv p3, iv c0, iv c1, iv c2, rv b6, rv b30, iv 1, iv 3, iv 0, iv 1, iv 1, iv 1, .unset]) rfl ?_
       refine XS.aload X178.here hx rfl (hb hby at_173) rfl rfl ?_
       refine XS.iload X178.here hx rfl (hb hby at_175) rfl ?_
       refine XS.iload X178.here hx rfl (hb hby at_177) rfl ?_
       refine st184 _ ?_
       refine XS.istore X184.here hx rfl (hb hby at_182) rfl (l' := #[iv p0, iv p1, iv p2, iv p3, iv c0, iv c1, iv c2, rv b6, rv b30, iv 1, iv 3, iv 0, iv 1, iv 1, iv 1, iv (own_tok [c1, c2])]) rfl ?_
       refine XS.iload X184.here hx rfl (hb hby at_184) rfl ?_
       refine XS.iload X184.here hx rfl (hb hby at_186) rfl ?_
       exact kt
      have hc188_186 : (own_tok [c1, c2]) = (1 : Int32) := by rw [own_tok, if_neg hc150_173, own_tok, if_neg hc163_180, own_tok]
      obtain ⟨fs, hr, hrun, hended, hW, hsame⟩ := X184.leave (v := some (.int (1 : Int32))) (fun h => by rw [Bd.returns] at h; cases h)
      refine ⟨_, _, G185 _ ?_, hrun, hended, _, _, rfl, ?_, ⟨_, rfl⟩, hW, hsame.mono (by decide) (by decide)⟩
      ·skip
       refine XS.icmpNo X184.here hx rfl (hb hby at_188) rfl (teq hc188_186).2 ?_
       refine XS.iconst X184.here hx rfl (hb hby at_191) ?_
       refine XS.goto X184.here hx rfl (pc0 := 192) (pc' := 196) rfl (hb hby at_192) (by decide) (by decide) ?_
       exact retN X184 hx (t := .boolean) Bd.returns (by simp) (hb hby at_196) hr
      ·show Q0 Z p0 p1 p2 p3 tt ct cst fv h0 n0 _ T184.heap _
       rw [eh184]
       exact ⟨rfl, N184⟩
  ·rcases own_at4 hto4 with rfl | rfl | rfl | rfl
   ·skip
    have G187 : ∀ t, Steps p.tables e below (T37.setTop (mkF m 66 #[iv p0, iv p1, iv p2, iv p3, iv c0, iv c1, iv c2, rv b6, rv b30, iv 2, iv 0, .unset, .unset, .unset, .unset, .unset] [(.int (2 : Int32))])) t → Steps p.tables e below (s₁.setTop (entryFrame m #[(.int p0), (.int p1), (.int p2), (.int p3)] maxLocals)) t := by
     intro t kt
     refine G44 _ ?_
     show Steps p.tables e below (T37.setTop (mkF m 64 #[iv p0, iv p1, iv p2, iv p3, iv c0, iv c1, iv c2, rv b6, rv b30, iv 2, iv 0, .unset, .unset, .unset, .unset, .unset] [])) _
     refine XS.iload X37.here hx rfl (hb hby at_64) rfl ?_
     exact kt
    have G188 : ∀ t, Steps p.tables e below (T37.setTop (mkF m 85 #[iv p0, iv p1, iv p2, iv p3, iv c0, iv c1, iv c2, rv b6, rv b30, iv 2, iv 0, iv 0, .unset, .unset, .unset, .unset] [(.int (1 : Int32)), (.int (2 : Int32))])) t → Steps p.tables e below (s₁.setTop (entryFrame m #[(.int p0), (.int p1), (.int p2), (.int p3)] maxLocals)) t := by
     intro t kt
     refine G187 _ ?_
     refine XS.ifYes X37.here hx rfl (pc0 := 66) (pc' := 79) rfl (hb hby at_66) rfl ((if0 _ _).trans (tlt (by decide)).2.2.1) (by decide) (by decide) ?_
     refine XS.iconst X37.here hx rfl (hb hby at_79) ?_
     refine XS.istore X37.here hx rfl (hb hby at_80) rfl (l' := #[iv p0, iv p1, iv p2, iv p3, iv c0, iv c1, iv c2, rv b6, rv b30, iv 2, iv 0, iv 0, .unset, .unset, .unset, .unset]) rfl ?_
     refine XS.iload X37.here hx rfl (hb hby at_82) rfl ?_
     refine XS.iconst X37.here hx rfl (hb hby at_84) ?_
     exact kt
    have G189 : ∀ t, Steps p.tables e below (T37.setTop (mkF m 104 #[iv p0, iv p1, iv p2, iv p3, iv c0, iv c1, iv c2, rv b6, rv b30, iv 2, iv 0, iv 0, iv 0, .unset, .unset, .unset] [(.int (2 : Int32)), (.int (2 : Int32))])) t → Steps p.tables e below (s₁.setTop (entryFrame m #[(.int p0), (.int p1), (.int p2), (.int p3)] maxLocals)) t := by
     intro t kt
     refine G188 _ ?_
     refine XS.icmpYes X37.here hx rfl (pc0 := 85) (pc' := 98) rfl (hb hby at_85) rfl (tlt (by decide)).2.2.1 (by decide) (by decide) ?_
     refine XS.iconst X37.here hx rfl (hb hby at_98) ?_
     refine XS.istore X37.here hx rfl (hb hby at_99) rfl (l' := #[iv p0, iv p1, iv p2, iv p3, iv c0, iv c1, iv c2, rv b6, rv b30, iv 2, iv 0, iv 0, iv 0, .unset, .unset, .unset]) rfl ?_
     refine XS.iload X37.here hx rfl (hb hby at_101) rfl ?_
     refine XS.iconst X37.here hx rfl (hb hby at_103) ?_
     exact kt
    have G190 : ∀ t, Steps p.tables e below (T37.setTop (mkF m 110 #[iv p0, iv p1, iv p2, iv p3, iv c0, iv c1, iv c2, rv b6, rv b30, iv 2, iv 0, iv 0, iv 0, .unset, .unset, .unset] [(.int (0 : Int32)), (.int (2 : Int32))])) t → Steps p.tables e below (s₁.setTop (entryFrame m #[(.int p0), (.int p1), (.int p2), (.int p3)] maxLocals)) t := by
     intro t kt
     refine G189 _ ?_
     refine XS.icmpNo X37.here hx rfl (hb hby at_104) rfl (flt (by decide)).2.2.1 ?_
     refine XS.iconst X37.here hx rfl (hb hby at_107) ?_
     refine XS.iload X37.here hx rfl (hb hby at_108) rfl ?_
     exact kt
    have G191 : ∀ t, Steps p.tables e below (T37.setTop (mkF m 124 #[iv p0, iv p1, iv p2, iv p3, iv c0, iv c1, iv c2, rv b6, rv b30, iv 2, iv 0, iv 0, iv 0, iv 0, .unset, .unset] [(.int (0 : Int32)), (.int (2 : Int32))])) t → Steps p.tables e below (s₁.setTop (entryFrame m #[(.int p0), (.int p1), (.int p2), (.int p3)] maxLocals)) t := by
     intro t kt
     refine G190 _ ?_
     refine XS.icmpYes X37.here hx rfl (pc0 := 110) (pc' := 117) rfl (hb hby at_110) rfl (flt (by decide)).2.1 (by decide) (by decide) ?_
     refine XS.iconst X37.here hx rfl (hb hby at_117) ?_
     refine XS.istore X37.here hx rfl (hb hby at_118) rfl (l' := #[iv p0, iv p1, iv p2, iv p3, iv c0, iv c1, iv c2, rv b6, rv b30, iv 2, iv 0, iv 0, iv 0, iv 0, .unset, .unset]) rfl ?_
     refine XS.iload X37.here hx rfl (hb hby at_120) rfl ?_
     refine XS.iload X37.here hx rfl (hb hby at_122) rfl ?_
     exact kt
    obtain ⟨_, _, ⟨T192, L192, k192, n192⟩, -, X192, ⟨Lc192, hQ192, l192, y192, z192⟩, st192⟩ := Jvm.LawKit.callS X37 hx (y := (⟨"com/example/wary_bearer/warybearer/http/Http1Reader", "isToken", "(Ljava/lang/String;II)Z"⟩ : MethodName)) hown (mvT hZ (hw _ (List.mem_of_getElem? (i := 35) rfl))) (mvT hZ (hw _ (List.mem_of_getElem? (i := 36) rfl))) (mvT hZ (hw _ (List.mem_of_getElem? (i := 37) rfl))) (mvT hZ (hw _ (List.mem_of_getElem? (i := 38) rfl))) (by decide) (backOf (W := 0) (rmTok0 l Z a0 hw [] b30 (2 : Int32) (0 : Int32) T37.heap n0 z41 (by decide)) hZ (hw _ (List.mem_of_getElem? (i := 38) rfl)) (hw _ (List.mem_of_getElem? (i := 37) rfl)) (by decide) (by decide)) (g := (mkF m 179 #[iv p0, iv p1, iv p2, iv p3, iv c0, iv c1, iv c2, rv b6, rv b30, iv 2, iv 0, iv 0, iv 0, iv 0, iv 0, .unset] [(.int (0 : Int32)), (.int (2 : Int32)), (.ref b30)])) rfl (by rw [hml]; rfl) (argsL := [(.ref b30), (.int (2 : Int32)), (.int (0 : Int32))]) (rest := []) (lenOf pd_15 rfl) rfl (by show 2 * 0 + _ ≤ _; exact Nat.le_of_eq rfl) (hb hby at_179) (fun _ _ => ⟨rfl, rfl, (by decide : 4 + 0 ≤ _), (by decide : 16 + 0 ≤ _)⟩)
    dsimp only [Pt.U, Pt.locs, Pt.cells, Pt.slots] at X192 l192 y192 z192 st192 hQ192
    subst l192 y192 z192
    obtain ⟨rfl, N192q, eh192⟩ := hQ192
    have N192 := Fr.app N37 N192q
    have G193 : ∀ t, Steps p.tables e below (T192.setTop (mkF m 188 #[iv p0, iv p1, iv p2, iv p3, iv c0, iv c1, iv c2, rv b6, rv b30, iv 2, iv 0, iv 0, iv 0, iv 0, iv 0, iv 0] [(.int (0 : Int32)), (.int (0 : Int32))])) t → Steps p.tables e below (s₁.setTop (entryFrame m #[(.int p0), (.int p1), (.int p2), (.int p3)] maxLocals)) t := by
     intro t kt
     refine G191 _ ?_
     refine XS.icmpYes X37.here hx rfl (pc0 := 124) (pc' := 170) rfl (hb hby at_124) rfl (flt (by decide)).2.1 (by decide) (by decide) ?_
     refine XS.iconst X37.here hx rfl (hb hby at_170) ?_
     refine XS.istore X37.here hx rfl (hb hby at_171) rfl (l' := #[iv p0, iv p1, iv p2, iv p3, iv c0, iv c1, iv c2, rv b6, rv b30, iv 2, iv 0, iv 0, iv 0, iv 0, iv 0, .unset]) rfl ?_
     refine XS.aload X37.here hx rfl (hb hby at_173) rfl rfl ?_
     refine XS.iload X37.here hx rfl (hb hby at_175) rfl ?_
     refine XS.iload X37.here hx rfl (hb hby at_177) rfl ?_
     show Steps p.tables e below (T37.setTop (mkF m 179 #[iv p0, iv p1, iv p2, iv p3, iv c0, iv c1, iv c2, rv b6, rv b30, iv 2, iv 0, iv 0, iv 0, iv 0, iv 0, .unset] [(.int (0 : Int32)), (.int (2 : Int32)), (.ref b30)])) _
     refine st192 _ ?_
     refine XS.istore X192.here hx rfl (hb hby at_182) rfl (l' := #[iv p0, iv p1, iv p2, iv p3, iv c0, iv c1, iv c2, rv b6, rv b30, iv 2, iv 0, iv 0, iv 0, iv 0, iv 0, iv 0]) rfl ?_
     refine XS.iload X192.here hx rfl (hb hby at_184) rfl ?_
     refine XS.iload X192.here hx rfl (hb hby at_186) rfl ?_
     exact kt
    obtain ⟨fs, hr, hrun, hended, hW, hsame⟩ := X192.leave (v := some (.int (1 : Int32))) (fun h => by rw [Bd.returns] at h; cases h)
    refine ⟨_, _, G193 _ ?_, hrun, hended, _, _, rfl, ?_, ⟨_, rfl⟩, hW, hsame.mono (by decide) (by decide)⟩
    ·skip
     refine XS.icmpNo X192.here hx rfl (hb hby at_188) rfl (teq (by decide)).2 ?_
     refine XS.iconst X192.here hx rfl (hb hby at_191) ?_
     refine XS.goto X192.here hx rfl (pc0 := 192) (pc' := 196) rfl (hb hby at_192) (by decide) (by decide) ?_
     exact retN X192 hx (t := .boolean) Bd.returns (by simp) (hb hby at_196) hr
    ·show Q0 Z p0 p1 p2 p3 tt ct cst fv h0 n0 _ T192.heap _
     rw [eh192]
     exact ⟨rfl, N192⟩
   ·skip
    have G194 : ∀ t, Steps p.tables e below (T37.setTop (mkF m 66 #[iv p0, iv p1, iv p2, iv p3, iv c0, iv c1, iv c2, rv b6, rv b30, iv 2, iv 1, .unset, .unset, .unset, .unset, .unset] [(.int (2 : Int32))])) t → Steps p.tables e below (s₁.setTop (entryFrame m #[(.int p0), (.int p1), (.int p2), (.int p3)] maxLocals)) t := by
     intro t kt
     refine G44 _ ?_
     show Steps p.tables e below (T37.setTop (mkF m 64 #[iv p0, iv p1, iv p2, iv p3, iv c0, iv c1, iv c2, rv b6, rv b30, iv 2, iv 1, .unset, .unset, .unset, .unset, .unset] [])) _
     refine XS.iload X37.here hx rfl (hb hby at_64) rfl ?_
     exact kt
    have G195 : ∀ t, Steps p.tables e below (T37.setTop (mkF m 85 #[iv p0, iv p1, iv p2, iv p3, iv c0, iv c1, iv c2, rv b6, rv b30, iv 2, iv 1, iv 0, .unset, .unset, .unset, .unset] [(.int (1 : Int32)), (.int (2 : Int32))])) t → Steps p.tables e below (s₁.setTop (entryFrame m #[(.int p0), (.int p1), (.int p2), (.int p3)] maxLocals)) t := by
     intro t kt
     refine G194 _ ?_
     refine XS.ifYes X37.here hx rfl (pc0 := 66) (pc' := 79) rfl (hb hby at_66) rfl ((if0 _ _).trans (tlt (by decide)).2.2.1) (by decide) (by decide) ?_
     refine XS.iconst X37.here hx rfl (hb hby at_79) ?_
     refine XS.istore X37.here hx rfl (hb hby at_80) rfl (l' := #[iv p0, iv p1, iv p2, iv p3, iv c0, iv c1, iv c2, rv b6, rv b30, iv 2, iv 1, iv 0, .unset, .unset, .unset, .unset]) rfl ?_
     refine XS.iload X37.here hx rfl (hb hby at_82) rfl ?_
     refine XS.iconst X37.here hx rfl (hb hby at_84) ?_
     exact kt
    have G196 : ∀ t, Steps p.tables e below (T37.setTop (mkF m 104 #[iv p0, iv p1, iv p2, iv p3, iv c0, iv c1, iv c2, rv b6, rv b30, iv 2, iv 1, iv 0, iv 0, .unset, .unset, .unset] [(.int (2 : Int32)), (.int (2 : Int32))])) t → Steps p.tables e below (s₁.setTop (entryFrame m #[(.int p0), (.int p1), (.int p2), (.int p3)] maxLocals)) t := by
     intro t kt
     refine G195 _ ?_
     refine XS.icmpYes X37.here hx rfl (pc0 := 85) (pc' := 98) rfl (hb hby at_85) rfl (tlt (by decide)).2.2.1 (by decide) (by decide) ?_
     refine XS.iconst X37.here hx rfl (hb hby at_98) ?_
     refine XS.istore X37.here hx rfl (hb hby at_99) rfl (l' := #[iv p0, iv p1, iv p2, iv p3, iv c0, iv c1, iv c2, rv b6, rv b30, iv 2, iv 1, iv 0, iv 0, .unset, .unset, .unset]) rfl ?_
     refine XS.iload X37.here hx rfl (hb hby at_101) rfl ?_
     refine XS.iconst X37.here hx rfl (hb hby at_103) ?_
     exact kt
    have G197 : ∀ t, Steps p.tables e below (T37.setTop (mkF m 110 #[iv p0, iv p1, iv p2, iv p3, iv c0, iv c1, iv c2, rv b6, rv b30, iv 2, iv 1, iv 0, iv 0, .unset, .unset, .unset] [(.int (1 : Int32)), (.int (2 : Int32))])) t → Steps p.tables e below (s₁.setTop (entryFrame m #[(.int p0), (.int p1), (.int p2), (.int p3)] maxLocals)) t := by
     intro t kt
     refine G196 _ ?_
     refine XS.icmpNo X37.here hx rfl (hb hby at_104) rfl (flt (by decide)).2.2.1 ?_
     refine XS.iconst X37.here hx rfl (hb hby at_107) ?_
     refine XS.iload X37.here hx rfl (hb hby at_108) rfl ?_
     exact kt
    have G198 : ∀ t, Steps p.tables e below (T37.setTop (mkF m 124 #[iv p0, iv p1, iv p2, iv p3, iv c0, iv c1, iv c2, rv b6, rv b30, iv 2, iv 1, iv 0, iv 0, iv 0, .unset, .unset] [(.int (1 : Int32)), (.int (2 : Int32))])) t → Steps p.tables e below (s₁.setTop (entryFrame m #[(.int p0), (.int p1), (.int p2), (.int p3)] maxLocals)) t := by
     intro t kt
     refine G197 _ ?_
     refine XS.icmpYes X37.here hx rfl (pc0 := 110) (pc' := 117) rfl (hb hby at_110) rfl (flt (by decide)).2.1 (by decide) (by decide) ?_
     refine XS.iconst X37.here hx rfl (hb hby at_117) ?_
     refine XS.istore X37.here hx rfl (hb hby at_118) rfl (l' := #[iv p0, iv p1, iv p2, iv p3, iv c0, iv c1, iv c2, rv b6, rv b30, iv 2, iv 1, iv 0, iv 0, iv 0, .unset, .unset]) rfl ?_
     refine XS.iload X37.here hx rfl (hb hby at_120) rfl ?_
     refine XS.iload X37.here hx rfl (hb hby at_122) rfl ?_
     exact kt
    obtain ⟨_, _, ⟨T199, L199, k199, n199⟩, -, X199, ⟨Lc199, hQ199, l199, y199, z199⟩, st199⟩ := Jvm.LawKit.callS X37 hx (y := (⟨"com/example/wary_bearer/warybearer/http/Http1Reader", "isToken", "(Ljava/lang/String;II)Z"⟩ : MethodName)) hown (mvT hZ (hw _ (List.mem_of_getElem? (i := 35) rfl))) (mvT hZ (hw _ (List.mem_of_getElem? (i := 36) rfl))) (mvT hZ (hw _ (List.mem_of_getElem? (i := 37) rfl))) (mvT hZ (hw _ (List.mem_of_getElem? (i := 38) rfl))) (by decide) (backOf (W := 0) (rmTok0 l Z a0 hw [] b30 (2 : Int32) (1 : Int32) T37.heap n0 z41 (by decide)) hZ (hw _ (List.mem_of_getElem? (i := 38) rfl)) (hw _ (List.mem_of_getElem? (i := 37) rfl)) (by decide) (by decide)) (g := (mkF m 179 #[iv p0, iv p1, iv p2, iv p3, iv c0, iv c1, iv c2, rv b6, rv b30, iv 2, iv 1, iv 0, iv 0, iv 0, iv 0, .unset] [(.int (1 : Int32)), (.int (2 : Int32)), (.ref b30)])) rfl (by rw [hml]; rfl) (argsL := [(.ref b30), (.int (2 : Int32)), (.int (1 : Int32))]) (rest := []) (lenOf pd_15 rfl) rfl (by show 2 * 0 + _ ≤ _; exact Nat.le_of_eq rfl) (hb hby at_179) (fun _ _ => ⟨rfl, rfl, (by decide : 4 + 0 ≤ _), (by decide : 16 + 0 ≤ _)⟩)
    dsimp only [Pt.U, Pt.locs, Pt.cells, Pt.slots] at X199 l199 y199 z199 st199 hQ199
    subst l199 y199 z199
    obtain ⟨rfl, N199q, eh199⟩ := hQ199
    have N199 := Fr.app N37 N199q
    have G200 : ∀ t, Steps p.tables e below (T199.setTop (mkF m 188 #[iv p0, iv p1, iv p2, iv p3, iv c0, iv c1, iv c2, rv b6, rv b30, iv 2, iv 1, iv 0, iv 0, iv 0, iv 0, iv 0] [(.int (0 : Int32)), (.int (0 : Int32))])) t → Steps p.tables e below (s₁.setTop (entryFrame m #[(.int p0), (.int p1), (.int p2), (.int p3)] maxLocals)) t := by
     intro t kt
     refine G198 _ ?_
     refine XS.icmpYes X37.here hx rfl (pc0 := 124) (pc' := 170) rfl (hb hby at_124) rfl (flt (by decide)).2.1 (by decide) (by decide) ?_
     refine XS.iconst X37.here hx rfl (hb hby at_170) ?_
     refine XS.istore X37.here hx rfl (hb hby at_171) rfl (l' := #[iv p0, iv p1, iv p2, iv p3, iv c0, iv c1, iv c2, rv b6, rv b30, iv 2, iv 1, iv 0, iv 0, iv 0, iv 0, .unset]) rfl ?_
     refine XS.aload X37.here hx rfl (hb hby at_173) rfl rfl ?_
     refine XS.iload X37.here hx rfl (hb hby at_175) rfl ?_
     refine XS.iload X37.here hx rfl (hb hby at_177) rfl ?_
     show Steps p.tables e below (T37.setTop (mkF m 179 #[iv p0, iv p1, iv p2, iv p3, iv c0, iv c1, iv c2, rv b6, rv b30, iv 2, iv 1, iv 0, iv 0, iv 0, iv 0, .unset] [(.int (1 : Int32)), (.int (2 : Int32)), (.ref b30)])) _
     refine st199 _ ?_
     refine XS.istore X199.here hx rfl (hb hby at_182) rfl (l' := #[iv p0, iv p1, iv p2, iv p3, iv c0, iv c1, iv c2, rv b6, rv b30, iv 2, iv 1, iv 0, iv 0, iv 0, iv 0, iv 0]) rfl ?_
     refine XS.iload X199.here hx rfl (hb hby at_184) rfl ?_
     refine XS.iload X199.here hx rfl (hb hby at_186) rfl ?_
     exact kt
    obtain ⟨fs, hr, hrun, hended, hW, hsame⟩ := X199.leave (v := some (.int (1 : Int32))) (fun h => by rw [Bd.returns] at h; cases h)
    refine ⟨_, _, G200 _ ?_, hrun, hended, _, _, rfl, ?_, ⟨_, rfl⟩, hW, hsame.mono (by decide) (by decide)⟩
    ·skip
     refine XS.icmpNo X199.here hx rfl (hb hby at_188) rfl (teq (by decide)).2 ?_
     refine XS.iconst X199.here hx rfl (hb hby at_191) ?_
     refine XS.goto X199.here hx rfl (pc0 := 192) (pc' := 196) rfl (hb hby at_192) (by decide) (by decide) ?_
     exact retN X199 hx (t := .boolean) Bd.returns (by simp) (hb hby at_196) hr
    ·show Q0 Z p0 p1 p2 p3 tt ct cst fv h0 n0 _ T199.heap _
     rw [eh199]
     exact ⟨rfl, N199⟩
   ·skip
    have G201 : ∀ t, Steps p.tables e below (T37.setTop (mkF m 66 #[iv p0, iv p1, iv p2, iv p3, iv c0, iv c1, iv c2, rv b6, rv b30, iv 2, iv 2, .unset, .unset, .unset, .unset, .unset] [(.int (2 : Int32))])) t → Steps p.tables e below (s₁.setTop (entryFrame m #[(.int p0), (.int p1), (.int p2), (.int p3)] maxLocals)) t := by
     intro t kt
     refine G44 _ ?_
     show Steps p.tables e below (T37.setTop (mkF m 64 #[iv p0, iv p1, iv p2, iv p3, iv c0, iv c1, iv c2, rv b6, rv b30, iv 2, iv 2, .unset, .unset, .unset, .unset, .unset] [])) _
     refine XS.iload X37.here hx rfl (hb hby at_64) rfl ?_
     exact kt
    have G202 : ∀ t, Steps p.tables e below (T37.setTop (mkF m 85 #[iv p0, iv p1, iv p2, iv p3, iv c0, iv c1, iv c2, rv b6, rv b30, iv 2, iv 2, iv 0, .unset, .unset, .unset, .unset] [(.int (1 : Int32)), (.int (2 : Int32))])) t → Steps p.tables e below (s₁.setTop (entryFrame m #[(.int p0), (.int p1), (.int p2), (.int p3)] maxLocals)) t := by
     intro t kt
     refine G201 _ ?_
     refine XS.ifYes X37.here hx rfl (pc0 := 66) (pc' := 79) rfl (hb hby at_66) rfl ((if0 _ _).trans (tlt (by decide)).2.2.1) (by decide) (by decide) ?_
     refine XS.iconst X37.here hx rfl (hb hby at_79) ?_
     refine XS.istore X37.here hx rfl (hb hby at_80) rfl (l' := #[iv p0, iv p1, iv p2, iv p3, iv c0, iv c1, iv c2, rv b6, rv b30, iv 2, iv 2, iv 0, .unset, .unset, .unset, .unset]) rfl ?_
     refine XS.iload X37.here hx rfl (hb hby at_82) rfl ?_
     refine XS.iconst X37.here hx rfl (hb hby at_84) ?_
     exact kt
    have G203 : ∀ t, Steps p.tables e below (T37.setTop (mkF m 104 #[iv p0, iv p1, iv p2, iv p3, iv c0, iv c1, iv c2, rv b6, rv b30, iv 2, iv 2, iv 0, iv 0, .unset, .unset, .unset] [(.int (2 : Int32)), (.int (2 : Int32))])) t → Steps p.tables e below (s₁.setTop (entryFrame m #[(.int p0), (.int p1), (.int p2), (.int p3)] maxLocals)) t := by
     intro t kt
     refine G202 _ ?_
     refine XS.icmpYes X37.here hx rfl (pc0 := 85) (pc' := 98) rfl (hb hby at_85) rfl (tlt (by decide)).2.2.1 (by decide) (by decide) ?_
     refine XS.iconst X37.here hx rfl (hb hby at_98) ?_
     refine XS.istore X37.here hx rfl (hb hby at_99) rfl (l' := #[iv p0, iv p1, iv p2, iv p3, iv c0, iv c1, iv c2, rv b6, rv b30, iv 2, iv 2, iv 0, iv 0, .unset, .unset, .unset]) rfl ?_
     refine XS.iload X37.here hx rfl (hb hby at_101) rfl ?_
     refine XS.iconst X37.here hx rfl (hb hby at_103) ?_
     exact kt
    have G204 : ∀ t, Steps p.tables e below (T37.setTop (mkF m 110 #[iv p0, iv p1, iv p2, iv p3, iv c0, iv c1, iv c2, rv b6, rv b30, iv 2, iv 2, iv 0, iv 0, .unset, .unset, .unset] [(.int (2 : Int32)), (.int (2 : Int32))])) t → Steps p.tables e below (s₁.setTop (entryFrame m #[(.int p0), (.int p1), (.int p2), (.int p3)] maxLocals)) t := by
     intro t kt
     refine G203 _ ?_
     refine XS.icmpNo X37.here hx rfl (hb hby at_104) rfl (flt (by decide)).2.2.1 ?_
     refine XS.iconst X37.here hx rfl (hb hby at_107) ?_
     refine XS.iload X37.here hx rfl (hb hby at_108) rfl ?_
     exact kt
    have G205 : ∀ t, Steps p.tables e below (T37.setTop (mkF m 124 #[iv p0, iv p1, iv p2, iv p3, iv c0, iv c1, iv c2, rv b6, rv b30, iv 2, iv 2, iv 0, iv 0, iv 0, .unset, .unset] [(.int (2 : Int32)), (.int (2 : Int32))])) t → Steps p.tables e below (s₁.setTop (entryFrame m #[(.int p0), (.int p1), (.int p2), (.int p3)] maxLocals)) t := by
     intro t kt
     refine G204 _ ?_
     refine XS.icmpYes X37.here hx rfl (pc0 := 110) (pc' := 117) rfl (hb hby at_110) rfl (flt (by decide)).2.1 (by decide) (by decide) ?_
     refine XS.iconst X37.here hx rfl (hb hby at_117) ?_
     refine XS.istore X37.here hx rfl (hb hby at_118) rfl (l' := #[iv p0, iv p1, iv p2, iv p3, iv c0, iv c1, iv c2, rv b6, rv b30, iv 2, iv 2, iv 0, iv 0, iv 0, .unset, .unset]) rfl ?_
     refine XS.iload X37.here hx rfl (hb hby at_120) rfl ?_
     refine XS.iload X37.here hx rfl (hb hby at_122) rfl ?_
     exact kt
    obtain ⟨_, _, ⟨T206, L206, k206, n206⟩, -, X206, ⟨Lc206, hQ206, l206, y206, z206⟩, st206⟩ := Jvm.LawKit.callS X37 hx (y := (⟨"com/example/wary_bearer/warybearer/http/Http1Reader", "isToken", "(Ljava/lang/String;II)Z"⟩ : MethodName)) hown (mvT hZ (hw _ (List.mem_of_getElem? (i := 35) rfl))) (mvT hZ (hw _ (List.mem_of_getElem? (i := 36) rfl))) (mvT hZ (hw _ (List.mem_of_getElem? (i := 37) rfl))) (mvT hZ (hw _ (List.mem_of_getElem? (i := 38) rfl))) (by decide) (backOf (W := 0) (rmTok0 l Z a0 hw [] b30 (2 : Int32) (2 : Int32) T37.heap n0 z41 (by decide)) hZ (hw _ (List.mem_of_getElem? (i := 38) rfl)) (hw _ (List.mem_of_getElem? (i := 37) rfl)) (by decide) (by decide)) (g := (mkF m 179 #[iv p0, iv p1, iv p2, iv p3, iv c0, iv c1, iv c2, rv b6, rv b30, iv 2, iv 2, iv 0, iv 0, iv 0, iv 0, .unset] [(.int (2 : Int32)), (.int (2 : Int32)), (.ref b30)])) rfl (by rw [hml]; rfl) (argsL := [(.ref b30), (.int (2 : Int32)), (.int (2 : Int32))]) (rest := []) (lenOf pd_15 rfl) rfl (by show 2 * 0 + _ ≤ _; exact Nat.le_of_eq rfl) (hb hby at_179) (fun _ _ => ⟨rfl, rfl, (by decide : 4 + 0 ≤ _), (by decide : 16 + 0 ≤ _)⟩)
    dsimp only [Pt.U, Pt.locs, Pt.cells, Pt.slots] at X206 l206 y206 z206 st206 hQ206
    subst l206 y206 z206
    obtain ⟨rfl, N206q, eh206⟩ := hQ206
    have N206 := Fr.app N37 N206q
    have G207 : ∀ t, Steps p.tables e below (T206.setTop (mkF m 188 #[iv p0, iv p1, iv p2, iv p3, iv c0, iv c1, iv c2, rv b6, rv b30, iv 2, iv 2, iv 0, iv 0, iv 0, iv 0, iv 0] [(.int (0 : Int32)), (.int (0 : Int32))])) t → Steps p.tables e below (s₁.setTop (entryFrame m #[(.int p0), (.int p1), (.int p2), (.int p3)] maxLocals)) t := by
     intro t kt
     refine G205 _ ?_
     refine XS.icmpYes X37.here hx rfl (pc0 := 124) (pc' := 170) rfl (hb hby at_124) rfl (flt (by decide)).2.1 (by decide) (by decide) ?_
     refine XS.iconst X37.here hx rfl (hb hby at_170) ?_
     refine XS.istore X37.here hx rfl (hb hby at_171) rfl (l' := #[iv p0, iv p1, iv p2, iv p3, iv c0, iv c1, iv c2, rv b6, rv b30, iv 2, iv 2, iv 0, iv 0, iv 0, iv 0, .unset]) rfl ?_
     refine XS.aload X37.here hx rfl (hb hby at_173) rfl rfl ?_
     refine XS.iload X37.here hx rfl (hb hby at_175) rfl ?_
     refine XS.iload X37.here hx rfl (hb hby at_177) rfl ?_
     show Steps p.tables e below (T37.setTop (mkF m 179 #[iv p0, iv p1, iv p2, iv p3, iv c0, iv c1, iv c2, rv b6, rv b30, iv 2, iv 2, iv 0, iv 0, iv 0, iv 0, .unset] [(.int (2 : Int32)), (.int (2 : Int32)), (.ref b30)])) _
     refine st206 _ ?_
     refine XS.istore X206.here hx rfl (hb hby at_182) rfl (l' := #[iv p0, iv p1, iv p2, iv p3, iv c0, iv c1, iv c2, rv b6, rv b30, iv 2, iv 2, iv 0, iv 0, iv 0, iv 0, iv 0]) rfl ?_
     refine XS.iload X206.here hx rfl (hb hby at_184) rfl ?_
     refine XS.iload X206.here hx rfl (hb hby at_186) rfl ?_
     exact kt
    obtain ⟨fs, hr, hrun, hended, hW, hsame⟩ := X206.leave (v := some (.int (1 : Int32))) (fun h => by rw [Bd.returns] at h; cases h)
    refine ⟨_, _, G207 _ ?_, hrun, hended, _, _, rfl, ?_, ⟨_, rfl⟩, hW, hsame.mono (by decide) (by decide)⟩
    ·skip
     refine XS.icmpNo X206.here hx rfl (hb hby at_188) rfl (teq (by decide)).2 ?_
     refine XS.iconst X206.here hx rfl (hb hby at_191) ?_
     refine XS.goto X206.here hx rfl (pc0 := 192) (pc' := 196) rfl (hb hby at_192) (by decide) (by decide) ?_
     exact retN X206 hx (t := .boolean) Bd.returns (by simp) (hb hby at_196) hr
    ·show Q0 Z p0 p1 p2 p3 tt ct cst fv h0 n0 _ T206.heap _
     rw [eh206]
     exact ⟨rfl, N206⟩
   ·skip
    have G208 : ∀ t, Steps p.tables e below (T37.setTop (mkF m 66 #[iv p0, iv p1, iv p2, iv p3, iv c0, iv c1, iv c2, rv b6, rv b30, iv 2, iv 3, .unset, .unset, .unset, .unset, .unset] [(.int (2 : Int32))])) t → Steps p.tables e below (s₁.setTop (entryFrame m #[(.int p0), (.int p1), (.int p2), (.int p3)] maxLocals)) t := by
     intro t kt
     refine G44 _ ?_
     show Steps p.tables e below (T37.setTop (mkF m 64 #[iv p0, iv p1, iv p2, iv p3, iv c0, iv c1, iv c2, rv b6, rv b30, iv 2, iv 3, .unset, .unset, .unset, .unset, .unset] [])) _
     refine XS.iload X37.here hx rfl (hb hby at_64) rfl ?_
     exact kt
    have G209 : ∀ t, Steps p.tables e below (T37.setTop (mkF m 85 #[iv p0, iv p1, iv p2, iv p3, iv c0, iv c1, iv c2, rv b6, rv b30, iv 2, iv 3, iv 0, .unset, .unset, .unset, .unset] [(.int (1 : Int32)), (.int (2 : Int32))])) t → Steps p.tables e below (s₁.setTop (entryFrame m #[(.int p0), (.int p1), (.int p2), (.int p3)] maxLocals)) t := by
     intro t kt
     refine G208 _ ?_
     refine XS.ifYes X37.here hx rfl (pc0 := 66) (pc' := 79) rfl (hb hby at_66) rfl ((if0 _ _).trans (tlt (by decide)).2.2.1) (by decide) (by decide) ?_
     refine XS.iconst X37.here hx rfl (hb hby at_79) ?_
     refine XS.istore X37.here hx rfl (hb hby at_80) rfl (l' := #[iv p0, iv p1, iv p2, iv p3, iv c0, iv c1, iv c2, rv b6, rv b30, iv 2, iv 3, iv 0, .unset, .unset, .unset, .unset]) rfl ?_
     refine XS.iload X37.here hx rfl (hb hby at_82) rfl ?_
     refine XS.iconst X37.here hx rfl (hb hby at_84) ?_
     exact kt
    have G210 : ∀ t, Steps p.tables e below (T37.setTop (mkF m 104 #[iv p0, iv p1, iv p2, iv p3, iv c0, iv c1, iv c2, rv b6, rv b30, iv 2, iv 3, iv 0, iv 0, .unset, .unset, .unset] [(.int (2 : Int32)), (.int (2 : Int32))])) t → Steps p.tables e below (s₁.setTop (entryFrame m #[(.int p0), (.int p1), (.int p2), (.int p3)] maxLocals)) t := by
     intro t kt
     refine G209 _ ?_
     refine XS.icmpYes X37.here hx rfl (pc0 := 85) (pc' := 98) rfl (hb hby at_85) rfl (tlt (by decide)).2.2.1 (by decide) (by decide) ?_
     refine XS.iconst X37.here hx rfl (hb hby at_98) ?_
     refine XS.istore X37.here hx rfl (hb hby at_99) rfl (l' := #[iv p0, iv p1, iv p2, iv p3, iv c0, iv c1, iv c2, rv b6, rv b30, iv 2, iv 3, iv 0, iv 0, .unset, .unset, .unset]) rfl ?_
     refine XS.iload X37.here hx rfl (hb hby at_101) rfl ?_
     refine XS.iconst X37.here hx rfl (hb hby at_103) ?_
     exact kt
    have G211 : ∀ t, Steps p.tables e below (T37.setTop (mkF m 110 #[iv p0, iv p1, iv p2, iv p3, iv c0, iv c1, iv c2, rv b6, rv b30, iv 2, iv 3, iv 0, iv 0, .unset, .unset, .unset] [(.int (3 : Int32)), (.int (2 : Int32))])) t → Steps p.tables e below (s₁.setTop (entryFrame m #[(.int p0), (.int p1), (.int p2), (.int p3)] maxLocals)) t := by
     intro t kt
     refine G210 _ ?_
     refine XS.icmpNo X37.here hx rfl (hb hby at_104) rfl (flt (by decide)).2.2.1 ?_
     refine XS.iconst X37.here hx rfl (hb hby at_107) ?_
     refine XS.iload X37.here hx rfl (hb hby at_108) rfl ?_
     exact kt
    have G212 : ∀ t, Steps p.tables e below (T37.setTop (mkF m 124 #[iv p0, iv p1, iv p2, iv p3, iv c0, iv c1, iv c2, rv b6, rv b30, iv 2, iv 3, iv 0, iv 0, iv 1, .unset, .unset] [(.int (3 : Int32)), (.int (2 : Int32))])) t → Steps p.tables e below (s₁.setTop (entryFrame m #[(.int p0), (.int p1), (.int p2), (.int p3)] maxLocals)) t := by
     intro t kt
     refine G211 _ ?_
     refine XS.icmpNo X37.here hx rfl (hb hby at_110) rfl (tlt (by decide)).2.1 ?_
     refine XS.iconst X37.here hx rfl (hb hby at_113) ?_
     refine XS.goto X37.here hx rfl (pc0 := 114) (pc' := 118) rfl (hb hby at_114) (by decide) (by decide) ?_
     refine XS.istore X37.here hx rfl (hb hby at_118) rfl (l' := #[iv p0, iv p1, iv p2, iv p3, iv c0, iv c1, iv c2, rv b6, rv b30, iv 2, iv 3, iv 0, iv 0, iv 1, .unset, .unset]) rfl ?_
     refine XS.iload X37.here hx rfl (hb hby at_120) rfl ?_
     refine XS.iload X37.here hx rfl (hb hby at_122) rfl ?_
     exact kt
    have G213 : ∀ t, Steps p.tables e below (T37.setTop (mkF m 129 #[iv p0, iv p1, iv p2, iv p3, iv c0, iv c1, iv c2, rv b6, rv b30, iv 2, iv 3, iv 0, iv 0, iv 1, .unset, .unset] [(.int (0 : Int32))])) t → Steps p.tables e below (s₁.setTop (entryFrame m #[(.int p0), (.int p1), (.int p2), (.int p3)] maxLocals)) t := by
     intro t kt
     refine G212 _ ?_
     refine XS.icmpNo X37.here hx rfl (hb hby at_124) rfl (tlt (by decide)).2.1 ?_
     refine XS.iload X37.here hx rfl (hb hby at_127) rfl ?_
     exact kt
    have G214 : ∀ t, Steps p.tables e below (T37.setTop (mkF m 142 #[iv p0, iv p1, iv p2, iv p3, iv c0, iv c1, iv c2, rv b6, rv b30, iv 2, iv 3, iv 0, iv 0, iv 1, .unset, .unset] [(.int (0 : Int32))])) t → Steps p.tables e below (s₁.setTop (entryFrame m #[(.int p0), (.int p1), (.int p2), (.int p3)] maxLocals)) t := by
     intro t kt
     refine G213 _ ?_
     refine XS.ifYes X37.here hx rfl (pc0 := 129) (pc' := 140) rfl (hb hby at_129) rfl ((if0 _ _).trans (teq (by decide)).1) (by decide) (by decide) ?_
     refine XS.iload X37.here hx rfl (hb hby at_140) rfl ?_
     exact kt
    have G215 : ∀ t, Steps p.tables e below (T37.setTop (mkF m 155 #[iv p0, iv p1, iv p2, iv p3, iv c0, iv c1, iv c2, rv b6, rv b30, iv 2, iv 3, iv 0, iv 0, iv 1, .unset, .unset] [(.int (1 : Int32))])) t → Steps p.tables e below (s₁.setTop (entryFrame m #[(.int p0), (.int p1), (.int p2), (.int p3)] maxLocals)) t := by
     intro t kt
     refine G214 _ ?_
     refine XS.ifYes X37.here hx rfl (pc0 := 142) (pc' := 153) rfl (hb hby at_142) rfl ((if0 _ _).trans (teq (by decide)).1) (by decide) (by decide) ?_
     refine XS.iload X37.here hx rfl (hb hby at_153) rfl ?_
     exact kt
    obtain ⟨_, _, ⟨T216, L216, k216, n216⟩, -, X216, ⟨Lc216, hQ216, l216, y216, z216⟩, st216⟩ := Jvm.LawKit.callS X37 hx (y := (⟨"com/example/wary_bearer/warybearer/http/Http1ReaderIsTokenPinLaw", "isT", "(C)Z"⟩ : MethodName)) hown (mvT hZ (hw _ (List.mem_of_getElem? (i := 59) rfl))) (mvT hZ (hw _ (List.mem_of_getElem? (i := 60) rfl))) (mvT hZ (hw _ (List.mem_of_getElem? (i := 2) rfl))) (mvT hZ (hw _ (List.mem_of_getElem? (i := 61) rfl))) (by decide) (backOf (W := 0) (rm14 l Z a0 hw [] c2  T37.heap n0 z41 ) hZ (hw _ (List.mem_of_getElem? (i := 61) rfl)) (hw _ (List.mem_of_getElem? (i := 2) rfl)) (by decide) (by decide)) (g := (mkF m 160 #[iv p0, iv p1, iv p2, iv p3, iv c0, iv c1, iv c2, rv b6, rv b30, iv 2, iv 3, iv 0, iv 0, iv 1, .unset, .unset] [(.int c2)])) rfl (by rw [hml]; rfl) (argsL := [(.int c2)]) (rest := []) (lenOf pd_16 rfl) rfl (by show 2 * 0 + _ ≤ _; exact Nat.le_of_eq rfl) (hb hby at_160) (fun _ _ => ⟨rfl, rfl, (by decide : 4 + 0 ≤ _), (by decide : 16 + 0 ≤ _)⟩)
    dsimp only [Pt.U, Pt.locs, Pt.cells, Pt.slots] at X216 l216 y216 z216 st216 hQ216
    subst l216 y216 z216
    obtain ⟨rfl, N216q, eh216⟩ := hQ216
    have N216 := Fr.app N37 N216q
    have G217 : ∀ t, Steps p.tables e below (T216.setTop (mkF m 163 #[iv p0, iv p1, iv p2, iv p3, iv c0, iv c1, iv c2, rv b6, rv b30, iv 2, iv 3, iv 0, iv 0, iv 1, .unset, .unset] [(.int (fisT c2))])) t → Steps p.tables e below (s₁.setTop (entryFrame m #[(.int p0), (.int p1), (.int p2), (.int p3)] maxLocals)) t := by
     intro t kt
     refine G215 _ ?_
     refine XS.ifNo X37.here hx rfl (hb hby at_155) rfl ((if0 _ _).trans (feq (by decide)).1) ?_
     refine XS.iload X37.here hx rfl (hb hby at_158) rfl ?_
     show Steps p.tables e below (T37.setTop (mkF m 160 #[iv p0, iv p1, iv p2, iv p3, iv c0, iv c1, iv c2, rv b6, rv b30, iv 2, iv 3, iv 0, iv 0, iv 1, .unset, .unset] [(.int c2)])) _
     refine st216 _ ?_
     exact kt
    by_cases hc163_218 : (fisT c2) = (0 : Int32)
    ·skip
     obtain ⟨_, _, ⟨T219, L219, k219, n219⟩, -, X219, ⟨Lc219, hQ219, l219, y219, z219⟩, st219⟩ := Jvm.LawKit.callS X216 hx (y := (⟨"com/example/wary_bearer/warybearer/http/Http1Reader", "isToken", "(Ljava/lang/String;II)Z"⟩ : MethodName)) hown (mvT hZ (hw _ (List.mem_of_getElem? (i := 35) rfl))) (mvT hZ (hw _ (List.mem_of_getElem? (i := 36) rfl))) (mvT hZ (hw _ (List.mem_of_getElem? (i := 37) rfl))) (mvT hZ (hw _ (List.mem_of_getElem? (i := 38) rfl))) (by decide) (backOf (W := 0) (rmTokL23 l Z a0 hw [] b30 c0 c1 c2 ta37 kb37 tt ct cst fv T37.heap n0 z41 A37 Fc37 Fv37 V37 fa38 hb0 hb1 hb2 hq37.1 hq37.2.1 hq37.2.2 TS TA TS2 TV SS) hZ (hw _ (List.mem_of_getElem? (i := 38) rfl)) (hw _ (List.mem_of_getElem? (i := 37) rfl)) (by decide) (by decide)) (g := (mkF m 179 #[iv p0, iv p1, iv p2, iv p3, iv c0, iv c1, iv c2, rv b6, rv b30, iv 2, iv 3, iv 0, iv 0, iv 1, iv 0, .unset] [(.int (3 : Int32)), (.int (2 : Int32)), (.ref b30)])) rfl (by rw [hml]; rfl) (argsL := [(.ref b30), (.int (2 : Int32)), (.int (3 : Int32))]) (rest := []) (lenOf pd_15 rfl) rfl (by show 2 * 0 + _ ≤ _; exact Nat.le_of_eq rfl) (hb hby at_179) (fun _ _ => ⟨rfl, eh216, (by decide : 4 + 0 ≤ _), (by decide : 16 + 0 ≤ _)⟩)
     dsimp only [Pt.U, Pt.locs, Pt.cells, Pt.slots] at X219 l219 y219 z219 st219 hQ219
     subst l219 y219 z219
     obtain ⟨rfl, N219q, eh219⟩ := hQ219
     have N219 := Fr.app N216 N219q
     have G220 : ∀ t, Steps p.tables e below (T219.setTop (mkF m 188 #[iv p0, iv p1, iv p2, iv p3, iv c0, iv c1, iv c2, rv b6, rv b30, iv 2, iv 3, iv 0, iv 0, iv 1, iv 0, iv (own_tok [c2])] [(.int (0 : Int32)), (.int (own_tok [c2]))])) t → Steps p.tables e below (s₁.setTop (entryFrame m #[(.int p0), (.int p1), (.int p2), (.int p3)] maxLocals)) t := by
      intro t kt
      refine G217 _ ?_
      refine XS.ifYes X216.here hx rfl (pc0 := 163) (pc' := 170) rfl (hb hby at_163) rfl ((if0 _ _).trans (teq hc163_218).1) (by decide) (by decide) ?_
      refine XS.iconst X216.here hx rfl (hb hby at_170) ?_
      refine XS.istore X216.here hx rfl (hb hby at_171) rfl (l' := #[iv p0, iv p1, iv p2, iv p3, iv c0, iv c1, iv c2, rv b6, rv b30, iv 2, iv 3, iv 0, iv 0, iv 1, iv 0, .unset]) rfl ?_
      refine XS.aload X216.here hx rfl (hb hby at_173) rfl rfl ?_
      refine XS.iload X216.here hx rfl (hb hby at_175) rfl ?_
      refine XS.iload X216.here hx rfl (hb hby at_177) rfl ?_
      refine st219 _ ?_
      refine XS.istore X219.here hx rfl (hb hby at_182) rfl (l' := #[iv p0, iv p1, iv p2, iv p3, iv c0, iv c1, iv c2, rv b6, rv b30, iv 2, iv 3, iv 0, iv 0, iv 1, iv 0, iv (own_tok [c2])]) rfl ?_
      refine XS.iload X219.here hx rfl (hb hby at_184) rfl ?_
      refine XS.iload X219.here hx rfl (hb hby at_186) rfl ?_
      exact kt
     have hc188_221 : (own_tok [c2]) = (0 : Int32) := by rw [own_tok, if_pos hc163_218]
     obtain ⟨fs, hr, hrun, hended, hW, hsame⟩ := X219.leave (v := some (.int (1 : Int32))) (fun h => by rw [Bd.returns] at h; cases h)
     refine ⟨_, _, G220 _ ?_, hrun, hended, _, _, rfl, ?_, ⟨_, rfl⟩, hW, hsame.mono (by decide) (by decide)⟩
     ·skip
      refine XS.icmpNo X219.here hx rfl (hb hby at_188) rfl (teq hc188_221).2 ?_
      refine XS.iconst X219.here hx rfl (hb hby at_191) ?_
      refine XS.goto X219.here hx rfl (pc0 := 192) (pc' := 196) rfl (hb hby at_192) (by decide) (by decide) ?_
      exact retN X219 hx (t := .boolean) Bd.returns (by simp) (hb hby at_196) hr
     ·show Q0 Z p0 p1 p2 p3 tt ct cst fv h0 n0 _ T219.heap _
      rw [eh219]
      exact ⟨rfl, N219⟩
    ·skip
     obtain ⟨_, _, ⟨T222, L222, k222, n222⟩, -, X222, ⟨Lc222, hQ222, l222, y222, z222⟩, st222⟩ := Jvm.LawKit.callS X216 hx (y := (⟨"com/example/wary_bearer/warybearer/http/Http1Reader", "isToken", "(Ljava/lang/String;II)Z"⟩ : MethodName)) hown (mvT hZ (hw _ (List.mem_of_getElem? (i := 35) rfl))) (mvT hZ (hw _ (List.mem_of_getElem? (i := 36) rfl))) (mvT hZ (hw _ (List.mem_of_getElem? (i := 37) rfl))) (mvT hZ (hw _ (List.mem_of_getElem? (i := 38) rfl))) (by decide) (backOf (W := 0) (rmTokL23 l Z a0 hw [] b30 c0 c1 c2 ta37 kb37 tt ct cst fv T37.heap n0 z41 A37 Fc37 Fv37 V37 fa38 hb0 hb1 hb2 hq37.1 hq37.2.1 hq37.2.2 TS TA TS2 TV SS) hZ (hw _ (List.mem_of_getElem? (i := 38) rfl)) (hw _ (List.mem_of_getElem? (i := 37) rfl)) (by decide) (by decide)) (g := (mkF m 179 #[iv p0, iv p1, iv p2, iv p3, iv c0, iv c1, iv c2, rv b6, rv b30, iv 2, iv 3, iv 0, iv 0, iv 1, iv 1, .unset] [(.int (3 : Int32)), (.int (2 : Int32)), (.ref b30)])) rfl (by rw [hml]; rfl) (argsL := [(.ref b30), (.int (2 : Int32)), (.int (3 : Int32))]) (rest := []) (lenOf pd_15 rfl) rfl (by show 2 * 0 + _ ≤ _; exact Nat.le_of_eq rfl) (hb hby at_179) (fun _ _ => ⟨rfl, eh216, (by decide : 4 + 0 ≤ _), (by decide : 16 + 0 ≤ _)⟩)
     dsimp only [Pt.U, Pt.locs, Pt.cells, Pt.slots] at X222 l222 y222 z222 st222 hQ222
     subst l222 y222 z222
     obtain ⟨rfl, N222q, eh222⟩ := hQ222
     have N222 := Fr.app N216 N222q
     have G223 : ∀ t, Steps p.tables e below (T222.setTop (mkF m 188 #[iv p0, iv p1, iv p2, iv p3, iv c0, iv c1, iv c2, rv b6, rv b30, iv 2, iv 3, iv 0, iv 0, iv 1, iv 1, iv (own_tok [c2])] [(.int (1 : Int32)), (.int (own_tok [c2]))])) t → Steps p.tables e below (s₁.setTop (entryFrame m #[(.int p0), (.int p1), (.int p2), (.int p3)] maxLocals)) t := by
      intro t kt
      refine G217 _ ?_
      refine XS.ifNo X216.here hx rfl (hb hby at_163) rfl ((if0 _ _).trans (feq hc163_218).1) ?_
      refine XS.iconst X216.here hx rfl (hb hby at_166) ?_
      refine XS.goto X216.here hx rfl (pc0 := 167) (pc' := 171) rfl (hb hby at_167) (by decide) (by decide) ?_
      refine XS.istore X216.here hx rfl (hb hby at_171) rfl (l' := #[iv p0, iv p1, iv p2, iv p3, iv c0, iv c1, iv c2, rv b6, rv b30, iv 2, iv 3, iv 0, iv 0, iv 1, iv 1, .unset]) rfl ?_
      refine XS.aload X216.here hx rfl (hb hby at_173) rfl rfl ?_
      refine XS.iload X216.here hx rfl (hb hby at_175) rfl ?_
      refine XS.iload X216.here hx rfl (hb hby at_177) rfl ?_
      refine st222 _ ?_
      refine XS.istore X222.here hx rfl (hb hby at_182) rfl (l' := #[iv p0, iv p1, iv p2, iv p3, iv c0, iv c1, iv c2, rv b6, rv b30, iv 2, iv 3, iv 0, iv 0, iv 1, iv 1, iv (own_tok [c2])]) rfl ?_
      refine XS.iload X222.here hx rfl (hb hby at_184) rfl ?_
      refine XS.iload X222.here hx rfl (hb hby at_186) rfl ?_
      exact kt
     have hc188_224 : (own_tok [c2]) = (1 : Int32) := by rw [own_tok, if_neg hc163_218, own_tok]
     obtain ⟨fs, hr, hrun, hended, hW, hsame⟩ := X222.leave (v := some (.int (1 : Int32))) (fun h => by rw [Bd.returns] at h; cases h)
     refine ⟨_, _, G223 _ ?_, hrun, hended, _, _, rfl, ?_, ⟨_, rfl⟩, hW, hsame.mono (by decide) (by decide)⟩
     ·skip
      refine XS.icmpNo X222.here hx rfl (hb hby at_188) rfl (teq hc188_224).2 ?_
      refine XS.iconst X222.here hx rfl (hb hby at_191) ?_
      refine XS.goto X222.here hx rfl (pc0 := 192) (pc' := 196) rfl (hb hby at_192) (by decide) (by decide) ?_
      exact retN X222 hx (t := .boolean) Bd.returns (by simp) (hb hby at_196) hr
     ·show Q0 Z p0 p1 p2 p3 tt ct cst fv h0 n0 _ T222.heap _
      rw [eh222]
      exact ⟨rfl, N222⟩
  ·rcases own_at4 hto4 with rfl | rfl | rfl | rfl
   ·skip
    have G225 : ∀ t, Steps p.tables e below (T37.setTop (mkF m 66 #[iv p0, iv p1, iv p2, iv p3, iv c0, iv c1, iv c2, rv b6, rv b30, iv 3, iv 0, .unset, .unset, .unset, .unset, .unset] [(.int (3 : Int32))])) t → Steps p.tables e below (s₁.setTop (entryFrame m #[(.int p0), (.int p1), (.int p2), (.int p3)] maxLocals)) t := by
     intro t kt
     refine G44 _ ?_
     show Steps p.tables e below (T37.setTop (mkF m 64 #[iv p0, iv p1, iv p2, iv p3, iv c0, iv c1, iv c2, rv b6, rv b30, iv 3, iv 0, .unset, .unset, .unset, .unset, .unset] [])) _
     refine XS.iload X37.here hx rfl (hb hby at_64) rfl ?_
     exact kt
    have G226 : ∀ t, Steps p.tables e below (T37.setTop (mkF m 85 #[iv p0, iv p1, iv p2, iv p3, iv c0, iv c1, iv c2, rv b6, rv b30, iv 3, iv 0, iv 0, .unset, .unset, .unset, .unset] [(.int (1 : Int32)), (.int (3 : Int32))])) t → Steps p.tables e below (s₁.setTop (entryFrame m #[(.int p0), (.int p1), (.int p2), (.int p3)] maxLocals)) t := by
     intro t kt
     refine G225 _ ?_
     refine XS.ifYes X37.here hx rfl (pc0 := 66) (pc' := 79) rfl (hb hby at_66) rfl ((if0 _ _).trans (tlt (by decide)).2.2.1) (by decide) (by decide) ?_
     refine XS.iconst X37.here hx rfl (hb hby at_79) ?_
     refine XS.istore X37.here hx rfl (hb hby at_80) rfl (l' := #[iv p0, iv p1, iv p2, iv p3, iv c0, iv c1, iv c2, rv b6, rv b30, iv 3, iv 0, iv 0, .unset, .unset, .unset, .unset]) rfl ?_
     refine XS.iload X37.here hx rfl (hb hby at_82) rfl ?_
     refine XS.iconst X37.here hx rfl (hb hby at_84) ?_
     exact kt
    have G227 : ∀ t, Steps p.tables e below (T37.setTop (mkF m 104 #[iv p0, iv p1, iv p2, iv p3, iv c0, iv c1, iv c2, rv b6, rv b30, iv 3, iv 0, iv 0, iv 0, .unset, .unset, .unset] [(.int (2 : Int32)), (.int (3 : Int32))])) t → Steps p.tables e below (s₁.setTop (entryFrame m #[(.int p0), (.int p1), (.int p2), (.int p3)] maxLocals)) t := by
     intro t kt
     refine G226 _ ?_
     refine XS.icmpYes X37.here hx rfl (pc0 := 85) (pc' := 98) rfl (hb hby at_85) rfl (tlt (by decide)).2.2.1 (by decide) (by decide) ?_
     refine XS.iconst X37.here hx rfl (hb hby at_98) ?_
     refine XS.istore X37.here hx rfl (hb hby at_99) rfl (l' := #[iv p0, iv p1, iv p2, iv p3, iv c0, iv c1, iv c2, rv b6, rv b30, iv 3, iv 0, iv 0, iv 0, .unset, .unset, .unset]) rfl ?_
     refine XS.iload X37.here hx rfl (hb hby at_101) rfl ?_
     refine XS.iconst X37.here hx rfl (hb hby at_103) ?_
     exact kt
    have G228 : ∀ t, Steps p.tables e below (T37.setTop (mkF m 124 #[iv p0, iv p1, iv p2, iv p3, iv c0, iv c1, iv c2, rv b6, rv b30, iv 3, iv 0, iv 0, iv 0, iv 0, .unset, .unset] [(.int (0 : Int32)), (.int (3 : Int32))])) t → Steps p.tables e below (s₁.setTop (entryFrame m #[(.int p0), (.int p1), (.int p2), (.int p3)] maxLocals)) t := by
     intro t kt
     refine G227 _ ?_
     refine XS.icmpYes X37.here hx rfl (pc0 := 104) (pc' := 117) rfl (hb hby at_104) rfl (tlt (by decide)).2.2.1 (by decide) (by decide) ?_
     refine XS.iconst X37.here hx rfl (hb hby at_117) ?_
     refine XS.istore X37.here hx rfl (hb hby at_118) rfl (l' := #[iv p0, iv p1, iv p2, iv p3, iv c0, iv c1, iv c2, rv b6, rv b30, iv 3, iv 0, iv 0, iv 0, iv 0, .unset, .unset]) rfl ?_
     refine XS.iload X37.here hx rfl (hb hby at_120) rfl ?_
     refine XS.iload X37.here hx rfl (hb hby at_122) rfl ?_
     exact kt
    obtain ⟨_, _, ⟨T229, L229, k229, n229⟩, -, X229, ⟨Lc229, hQ229, l229, y229, z229⟩, st229⟩ := Jvm.LawKit.callS X37 hx (y := (⟨"com/example/wary_bearer/warybearer/http/Http1Reader", "isToken", "(Ljava/lang/String;II)Z"⟩ : MethodName)) hown (mvT hZ (hw _ (List.mem_of_getElem? (i := 35) rfl))) (mvT hZ (hw _ (List.mem_of_getElem? (i := 36) rfl))) (mvT hZ (hw _ (List.mem_of_getElem? (i := 37) rfl))) (mvT hZ (hw _ (List.mem_of_getElem? (i := 38) rfl))) (by decide) (backOf (W := 0) (rmTok0 l Z a0 hw [] b30 (3 : Int32) (0 : Int32) T37.heap n0 z41 (by decide)) hZ (hw _ (List.mem_of_getElem? (i := 38) rfl)) (hw _ (List.mem_of_getElem? (i := 37) rfl)) (by decide) (by decide)) (g := (mkF m 179 #[iv p0, iv p1, iv p2, iv p3, iv c0, iv c1, iv c2, rv b6, rv b30, iv 3, iv 0, iv 0, iv 0, iv 0, iv 0, .unset] [(.int (0 : Int32)), (.int (3 : Int32)), (.ref b30)])) rfl (by rw [hml]; rfl) (argsL := [(.ref b30), (.int (3 : Int32)), (.int (0 : Int32))]) (rest := []) (lenOf pd_15 rfl) rfl (by show 2 * 0 + _ ≤ _; exact Nat.le_of_eq rfl) (hb hby at_179) (fun _ _ => ⟨rfl, rfl, (by decide : 4 + 0 ≤ _), (by decide : 16 + 0 ≤ _)⟩)
    dsimp only [Pt.U, Pt.locs, Pt.cells, Pt.slots] at X229 l229 y229 z229 st229 hQ229
    subst l229 y229 z229
    obtain ⟨rfl, N229q, eh229⟩ := hQ229
    have N229 := Fr.app N37 N229q
    have G230 : ∀ t, Steps p.tables e below (T229.setTop (mkF m 188 #[iv p0, iv p1, iv p2, iv p3, iv c0, iv c1, iv c2, rv b6, rv b30, iv 3, iv 0, iv 0, iv 0, iv 0, iv 0, iv 0] [(.int (0 : Int32)), (.int (0 : Int32))])) t → Steps p.tables e below (s₁.setTop (entryFrame m #[(.int p0), (.int p1), (.int p2), (.int p3)] maxLocals)) t := by
     intro t kt
     refine G228 _ ?_
     refine XS.icmpYes X37.here hx rfl (pc0 := 124) (pc' := 170) rfl (hb hby at_124) rfl (flt (by decide)).2.1 (by decide) (by decide) ?_
     refine XS.iconst X37.here hx rfl (hb hby at_170) ?_
     refine XS.istore X37.here hx rfl (hb hby at_171) rfl (l' := #[iv p0, iv p1, iv p2, iv p3, iv c0, iv c1, iv c2, rv b6, rv b30, iv 3, iv 0, iv 0, iv 0, iv 0, iv 0, .unset]) rfl ?_
     refine XS.aload X37.here hx rfl (hb hby at_173) rfl rfl ?_
     refine XS.iload X37.here hx rfl (hb hby at_175) rfl ?_
     refine XS.iload X37.here hx rfl (hb hby at_177) rfl ?_
     refine st229 _ ?_
     refine XS.istore X229.here hx rfl (hb hby at_182) rfl (l' := #[iv p0, iv p1, iv p2, iv p3, iv c0, iv c1, iv c2, rv b6, rv b30, iv 3, iv 0, iv 0, iv 0, iv 0, iv 0, iv 0]) rfl ?_
     show Steps p.tables e below (T229.setTop (mkF m 184 #[iv p0, iv p1, iv p2, iv p3, iv c0, iv c1, iv c2, rv b6, rv b30, iv 3, iv 0, iv 0, iv 0, iv 0, iv 0, iv 0] [])) _
     refine XS.iload X229.here hx rfl (hb hby at_184) rfl ?_
     refine XS.iload X229.here hx rfl (hb hby at_186) rfl ?_
     exact kt
    obtain ⟨fs, hr, hrun, hended, hW, hsame⟩ := X229.leave (v := some (.int (1 : Int32))) (fun h => by rw [Bd.returns] at h; cases h)
    refine ⟨_, _, G230 _ ?_, hrun, hended, _, _, rfl, ?_, ⟨_, rfl⟩, hW, hsame.mono (by decide) (by decide)⟩
    ·skip
     refine XS.icmpNo X229.here hx rfl (hb hby at_188) rfl (teq (by decide)).2 ?_
     refine XS.iconst X229.here hx rfl (hb hby at_191) ?_
     refine XS.goto X229.here hx rfl (pc0 := 192) (pc' := 196) rfl (hb hby at_192) (by decide) (by decide) ?_
     exact retN X229 hx (t := .boolean) Bd.returns (by simp) (hb hby at_196) hr
    ·show Q0 Z p0 p1 p2 p3 tt ct cst fv h0 n0 _ T229.heap _
     rw [eh229]
     exact ⟨rfl, N229⟩
   ·skip
    have G231 : ∀ t, Steps p.tables e below (T37.setTop (mkF m 66 #[iv p0, iv p1, iv p2, iv p3, iv c0, iv c1, iv c2, rv b6, rv b30, iv 3, iv 1, .unset, .unset, .unset, .unset, .unset] [(.int (3 : Int32))])) t → Steps p.tables e below (s₁.setTop (entryFrame m #[(.int p0), (.int p1), (.int p2), (.int p3)] maxLocals)) t := by
     intro t kt
     refine G44 _ ?_
     show Steps p.tables e below (T37.setTop (mkF m 64 #[iv p0, iv p1, iv p2, iv p3, iv c0, iv c1, iv c2, rv b6, rv b30, iv 3, iv 1, .unset, .unset, .unset, .unset, .unset] [])) _
     refine XS.iload X37.here hx rfl (hb hby at_64) rfl ?_
     exact kt
    have G232 : ∀ t, Steps p.tables e below (T37.setTop (mkF m 85 #[iv p0, iv p1, iv p2, iv p3, iv c0, iv c1, iv c2, rv b6, rv b30, iv 3, iv 1, iv 0, .unset, .unset, .unset, .unset] [(.int (1 : Int32)), (.int (3 : Int32))])) t → Steps p.tables e below (s₁.setTop (entryFrame m #[(.int p0), (.int p1), (.int p2), (.int p3)] maxLocals)) t := by
     intro t kt
     refine G231 _ ?_
     refine XS.ifYes X37.here hx rfl (pc0 := 66) (pc' := 79) rfl (hb hby at_66) rfl ((if0 _ _).trans (tlt (by decide)).2.2.1) (by decide) (by decide) ?_
     refine XS.iconst X37.here hx rfl (hb hby at_79) ?_
     refine XS.istore X37.here hx rfl (hb hby at_80) rfl (l' := #[iv p0, iv p1, iv p2, iv p3, iv c0, iv c1, iv c2, rv b6, rv b30, iv 3, iv 1, iv 0, .unset, .unset, .unset, .unset]) rfl ?_
     refine XS.iload X37.here hx rfl (hb hby at_82) rfl ?_
     refine XS.iconst X37.here hx rfl (hb hby at_84) ?_
     exact kt
    have G233 : ∀ t, Steps p.tables e below (T37.setTop (mkF m 104 #[iv p0, iv p1, iv p2, iv p3, iv c0, iv c1, iv c2, rv b6, rv b30, iv 3, iv 1, iv 0, iv 0, .unset, .unset, .unset] [(.int (2 : Int32)), (.int (3 : Int32))])) t → Steps p.tables e below (s₁.setTop (entryFrame m #[(.int p0), (.int p1), (.int p2), (.int p3)] maxLocals)) t := by
     intro t kt
     refine G232 _ ?_
     refine XS.icmpYes X37.here hx rfl (pc0 := 85) (pc' := 98) rfl (hb hby at_85) rfl (tlt (by decide)).2.2.1 (by decide) (by decide) ?_
     refine XS.iconst X37.here hx rfl (hb hby at_98) ?_
     refine XS.istore X37.here hx rfl (hb hby at_99) rfl (l' := #[iv p0, iv p1, iv p2, iv p3, iv c0, iv c1, iv c2, rv b6, rv b30, iv 3, iv 1, iv 0, iv 0, .unset, .unset, .unset]) rfl ?_
     refine XS.iload X37.here hx rfl (hb hby at_101) rfl ?_
     refine XS.iconst X37.here hx rfl (hb hby at_103) ?_
     exact kt
    have G234 : ∀ t, Steps p.tables e below (T37.setTop (mkF m 124 #[iv p0, iv p1, iv p2, iv p3, iv c0, iv c1, iv c2, rv b6, rv b30, iv 3, iv 1, iv 0, iv 0, iv 0, .unset, .unset] [(.int (1 : Int32)), (.int (3 : Int32))])) t → Steps p.tables e below (s₁.setTop (entryFrame m #[(.int p0), (.int p1), (.int p2), (.int p3)] maxLocals)) t := by
     intro t kt
     refine G233 _ ?_
     refine XS.icmpYes X37.here hx rfl (pc0 := 104) (pc' := 117) rfl (hb hby at_104) rfl (tlt (by decide)).2.2.1 (by decide) (by decide) ?_
     refine XS.iconst X37.here hx rfl (hb hby at_117) ?_
     refine XS.istore X37.here hx rfl (hb hby at_118) rfl (l' := #[iv p0, iv p1, iv p2, iv p3, iv c0, iv c1, iv c2, rv b6, rv b30, iv 3, iv 1, iv 0, iv 0, iv 0, .unset, .unset]) rfl ?_
     refine XS.iload X37.here hx rfl (hb hby at_120) rfl ?_
     refine XS.iload X37.here hx rfl (hb hby at_122) rfl ?_
     exact kt
    obtain ⟨_, _, ⟨T235, L235, k235, n235⟩, -, X235, ⟨Lc235, hQ235, l235, y235, z235⟩, st235⟩ := Jvm.LawKit.callS X37 hx (y := (⟨"com/example/wary_bearer/warybearer/http/Http1Reader", "isToken", "(Ljava/lang/String;II)Z"⟩ : MethodName)) hown (mvT hZ (hw _ (List.mem_of_getElem? (i := 35) rfl))) (mvT hZ (hw _ (List.mem_of_getElem? (i := 36) rfl))) (mvT hZ (hw _ (List.mem_of_getElem? (i := 37) rfl))) (mvT hZ (hw _ (List.mem_of_getElem? (i := 38) rfl))) (by decide) (backOf (W := 0) (rmTok0 l Z a0 hw [] b30 (3 : Int32) (1 : Int32) T37.heap n0 z41 (by decide)) hZ (hw _ (List.mem_of_getElem? (i := 38) rfl)) (hw _ (List.mem_of_getElem? (i := 37) rfl)) (by decide) (by decide)) (g := (mkF m 179 #[iv p0, iv p1, iv p2, iv p3, iv c0, iv c1, iv c2, rv b6, rv b30, iv 3, iv 1, iv 0, iv 0, iv 0, iv 0, .unset] [(.int (1 : Int32)), (.int (3 : Int32)), (.ref b30)])) rfl (by rw [hml]; rfl) (argsL := [(.ref b30), (.int (3 : Int32)), (.int (1 : Int32))]) (rest := []) (lenOf pd_15 rfl) rfl (by show 2 * 0 + _ ≤ _; exact Nat.le_of_eq rfl) (hb hby at_179) (fun _ _ => ⟨rfl, rfl, (by decide : 4 + 0 ≤ _), (by decide : 16 + 0 ≤ _)⟩)
    dsimp only [Pt.U, Pt.locs, Pt.cells, Pt.slots] at X235 l235 y235 z235 st235 hQ235
    subst l235 y235 z235
    obtain ⟨rfl, N235q, eh235⟩ := hQ235
    have N235 := Fr.app N37 N235q
    have G236 : ∀ t, Steps p.tables e below (T235.setTop (mkF m 188 #[iv p0, iv p1, iv p2, iv p3, iv c0, iv c1, iv c2, rv b6, rv b30, iv 3, iv 1, iv 0, iv 0, iv 0, iv 0, iv 0] [(.int (0 : Int32)), (.int (0 : Int32))])) t → Steps p.tables e below (s₁.setTop (entryFrame m #[(.int p0), (.int p1), (.int p2), (.int p3)] maxLocals)) t := by
     intro t kt
     refine G234 _ ?_
     refine XS.icmpYes X37.here hx rfl (pc0 := 124) (pc' := 170) rfl (hb hby at_124) rfl (flt (by decide)).2.1 (by decide) (by decide) ?_
     refine XS.iconst X37.here hx rfl (hb hby at_170) ?_
     refine XS.istore X37.here hx rfl (hb hby at_171) rfl (l' := #[iv p0, iv p1, iv p2, iv p3, iv c0, iv c1, iv c2, rv b6, rv b30, iv 3, iv 1, iv 0, iv 0, iv 0, iv 0, .unset]) rfl ?_
     refine XS.aload X37.here hx rfl (hb hby at_173) rfl rfl ?_
     refine XS.iload X37.here hx rfl (hb hby at_175) rfl ?_
     refine XS.iload X37.here hx rfl (hb hby at_177) rfl ?_
     refine st235 _ ?_
     refine XS.istore X235.here hx rfl (hb hby at_182) rfl (l' := #[iv p0, iv p1, iv p2, iv p3, iv c0, iv c1, iv c2, rv b6, rv b30, iv 3, iv 1, iv 0, iv 0, iv 0, iv 0, iv 0]) rfl ?_
     show Steps p.tables e below (T235.setTop (mkF m 184 #[iv p0, iv p1, iv p2, iv p3, iv c0, iv c1, iv c2, rv b6, rv b30, iv 3, iv 1, iv 0, iv 0, iv 0, iv 0, iv 0] [])) _
     refine XS.iload X235.here hx rfl (hb hby at_184) rfl ?_
     refine XS.iload X235.here hx rfl (hb hby at_186) rfl ?_
     exact kt
    obtain ⟨fs, hr, hrun, hended, hW, hsame⟩ := X235.leave (v := some (.int (1 : Int32))) (fun h => by rw [Bd.returns] at h; cases h)
    refine ⟨_, _, G236 _ ?_, hrun, hended, _, _, rfl, ?_, ⟨_, rfl⟩, hW, hsame.mono (by decide) (by decide)⟩
    ·skip
     refine XS.icmpNo X235.here hx rfl (hb hby at_188) rfl (teq (by decide)).2 ?_
     refine XS.iconst X235.here hx rfl (hb hby at_191) ?_
     refine XS.goto X235.here hx rfl (pc0 := 192) (pc' := 196) rfl (hb hby at_192) (by decide) (by decide) ?_
     exact retN X235 hx (t := .boolean) Bd.returns (by simp) (hb hby at_196) hr
    ·show Q0 Z p0 p1 p2 p3 tt ct cst fv h0 n0 _ T235.heap _
     rw [eh235]
     exact ⟨rfl, N235⟩
   ·skip
    have G237 : ∀ t, Steps p.tables e below (T37.setTop (mkF m 66 #[iv p0, iv p1, iv p2, iv p3, iv c0, iv c1, iv c2, rv b6, rv b30, iv 3, iv 2, .unset, .unset, .unset, .unset, .unset] [(.int (3 : Int32))])) t → Steps p.tables e below (s₁.setTop (entryFrame m #[(.int p0), (.int p1), (.int p2), (.int p3)] maxLocals)) t := by
     intro t kt
     refine G44 _ ?_
     show Steps p.tables e below (T37.setTop (mkF m 64 #[iv p0, iv p1, iv p2, iv p3, iv c0, iv c1, iv c2, rv b6, rv b30, iv 3, iv 2, .unset, .unset, .unset, .unset, .unset] [])) _
     refine XS.iload X37.here hx rfl (hb hby at_64) rfl ?_
     exact kt
    have G238 : ∀ t, Steps p.tables e below (T37.setTop (mkF m 85 #[iv p0, iv p1, iv p2, iv p3, iv c0, iv c1, iv c2, rv b6, rv b30, iv 3, iv 2, iv 0, .unset, .unset, .unset, .unset] [(.int (1 : Int32)), (.int (3 : Int32))])) t → Steps p.tables e below (s₁.setTop (entryFrame m #[(.int p0), (.int p1), (.int p2), (.int p3)] maxLocals)) t := by
     intro t kt
     refine G237 _ ?_
     refine XS.ifYes X37.here hx rfl (pc0 := 66) (pc' := 79) rfl (hb hby at_66) rfl ((if0 _ _).trans (tlt (by decide)).2.2.1) (by decide) (by decide) ?_
     refine XS.iconst X37.here hx rfl (hb hby at_79) ?_
     refine XS.istore X37.here hx rfl (hb hby at_80) rfl (l' := #[iv p0, iv p1, iv p2, iv p3, iv c0, iv c1, iv c2, rv b6, rv b30, iv 3, iv 2, iv 0, .unset, .unset, .unset, .unset]) rfl ?_
     refine XS.iload X37.here hx rfl (hb hby at_82) rfl ?_
     refine XS.iconst X37.here hx rfl (hb hby at_84) ?_
     exact kt
    have G239 : ∀ t, Steps p.tables e below (T37.setTop (mkF m 104 #[iv p0, iv p1, iv p2, iv p3, iv c0, iv c1, iv c2, rv b6, rv b30, iv 3, iv 2, iv 0, iv 0, .unset, .unset, .unset] [(.int (2 : Int32)), (.int (3 : Int32))])) t → Steps p.tables e below (s₁.setTop (entryFrame m #[(.int p0), (.int p1), (.int p2), (.int p3)] maxLocals)) t := by
     intro t kt
     refine G238 _ ?_
     refine XS.icmpYes X37.here hx rfl (pc0 := 85) (pc' := 98) rfl (hb hby at_85) rfl (tlt (by decide)).2.2.1 (by decide) (by decide) ?_
     refine XS.iconst X37.here hx rfl (hb hby at_98) ?_
     refine XS.istore X37.here hx rfl (hb hby at_99) rfl (l' := #[iv p0, iv p1, iv p2, iv p3, iv c0, iv c1, iv c2, rv b6, rv b30, iv 3, iv 2, iv 0, iv 0, .unset, .unset, .unset]) rfl ?_
     refine XS.iload X37.here hx rfl (hb hby at_101) rfl ?_
     refine XS.iconst X37.here hx rfl (hb hby at_103) ?_
     exact kt
    have G240 : ∀ t, Steps p.tables e below (T37.setTop (mkF m 124 #[iv p0, iv p1, iv p2, iv p3, iv c0, iv c1, iv c2, rv b6, rv b30, iv 3, iv 2, iv 0, iv 0, iv 0, .unset, .unset] [(.int (2 : Int32)), (.int (3 : Int32))])) t → Steps p.tables e below (s₁.setTop (entryFrame m #[(.int p0), (.int p1), (.int p2), (.int p3)] maxLocals)) t := by
     intro t kt
     refine G239 _ ?_
     refine XS.icmpYes X37.here hx rfl (pc0 := 104) (pc' := 117) rfl (hb hby at_104) rfl (tlt (by decide)).2.2.1 (by decide) (by decide) ?_
     refine XS.iconst X37.here hx rfl (hb hby at_117) ?_
     refine XS.istore X37.here hx rfl (hb hby at_118) rfl (l' := #[iv p0, iv p1, iv p2, iv p3, iv c0, iv c1, iv c2, rv b6, rv b30, iv 3, iv 2, iv 0, iv 0, iv 0, .unset, .unset]) rfl ?_
     refine XS.iload X37.here hx rfl (hb hby at_120) rfl ?_
     refine XS.iload X37.here hx rfl (hb hby at_122) rfl ?_
     exact kt
    obtain ⟨_, _, ⟨T241, L241, k241, n241⟩, -, X241, ⟨Lc241, hQ241, l241, y241, z241⟩, st241⟩ := Jvm.LawKit.callS X37 hx (y := (⟨"com/example/wary_bearer/warybearer/http/Http1Reader", "isToken", "(Ljava/lang/String;II)Z"⟩ : MethodName)) hown (mvT hZ (hw _ (List.mem_of_getElem? (i := 35) rfl))) (mvT hZ (hw _ (List.mem_of_getElem? (i := 36) rfl))) (mvT hZ (hw _ (List.mem_of_getElem? (i := 37) rfl))) (mvT hZ (hw _ (List.mem_of_getElem? (i := 38) rfl))) (by decide) (backOf (W := 0) (rmTok0 l Z a0 hw [] b30 (3 : Int32) (2 : Int32) T37.heap n0 z41 (by decide)) hZ (hw _ (List.mem_of_getElem? (i := 38) rfl)) (hw _ (List.mem_of_getElem? (i := 37) rfl)) (by decide) (by decide)) (g := (mkF m 179 #[iv p0, iv p1, iv p2, iv p3, iv c0, iv c1, iv c2, rv b6, rv b30, iv 3, iv 2, iv 0, iv 0, iv 0, iv 0, .unset] [(.int (2 : Int32)), (.int (3 : Int32)), (.ref b30)])) rfl (by rw [hml]; rfl) (argsL := [(.ref b30), (.int (3 : Int32)), (.int (2 : Int32))]) (rest := []) (lenOf pd_15 rfl) rfl (by show 2 * 0 + _ ≤ _; exact Nat.le_of_eq rfl) (hb hby at_179) (fun _ _ => ⟨rfl, rfl, (by decide : 4 + 0 ≤ _), (by decide : 16 + 0 ≤ _)⟩)
    dsimp only [Pt.U, Pt.locs, Pt.cells, Pt.slots] at X241 l241 y241 z241 st241 hQ241
    subst l241 y241 z241
    obtain ⟨rfl, N241q, eh241⟩ := hQ241
    have N241 := Fr.app N37 N241q
    have G242 : ∀ t, Steps p.tables e below (T241.setTop (mkF m 188 #[iv p0, iv p1, iv p2, iv p3, iv c0, iv c1, iv c2, rv b6, rv b30, iv 3, iv 2, iv 0, iv 0, iv 0, iv 0, iv 0] [(.int (0 : Int32)), (.int (0 : Int32))])) t → Steps p.tables e below (s₁.setTop (entryFrame m #[(.int p0), (.int p1), (.int p2), (.int p3)] maxLocals)) t := by
     intro t kt
     refine G240 _ ?_
     refine XS.icmpYes X37.here hx rfl (pc0 := 124) (pc' := 170) rfl (hb hby at_124) rfl (flt (by decide)).2.1 (by decide) (by decide) ?_
     refine XS.iconst X37.here hx rfl (hb hby at_170) ?_
     refine XS.istore X37.here hx rfl (hb hby at_171) rfl (l' := #[iv p0, iv p1, iv p2, iv p3, iv c0, iv c1, iv c2, rv b6, rv b30, iv 3, iv 2, iv 0, iv 0, iv 0, iv 0, .unset]) rfl ?_
     refine XS.aload X37.here hx rfl (hb hby at_173) rfl rfl ?_
     refine XS.iload X37.here hx rfl (hb hby at_175) rfl ?_
     refine XS.iload X37.here hx rfl (hb hby at_177) rfl ?_
     refine st241 _ ?_
     refine XS.istore X241.here hx rfl (hb hby at_182) rfl (l' := #[iv p0, iv p1, iv p2, iv p3, iv c0, iv c1, iv c2, rv b6, rv b30, iv 3, iv 2, iv 0, iv 0, iv 0, iv 0, iv 0]) rfl ?_
     show Steps p.tables e below (T241.setTop (mkF m 184 #[iv p0, iv p1, iv p2, iv p3, iv c0, iv c1, iv c2, rv b6, rv b30, iv 3, iv 2, iv 0, iv 0, iv 0, iv 0, iv 0] [])) _
     refine XS.iload X241.here hx rfl (hb hby at_184) rfl ?_
     refine XS.iload X241.here hx rfl (hb hby at_186) rfl ?_
     exact kt
    obtain ⟨fs, hr, hrun, hended, hW, hsame⟩ := X241.leave (v := some (.int (1 : Int32))) (fun h => by rw [Bd.returns] at h; cases h)
    refine ⟨_, _, G242 _ ?_, hrun, hended, _, _, rfl, ?_, ⟨_, rfl⟩, hW, hsame.mono (by decide) (by decide)⟩
    ·skip
     refine XS.icmpNo X241.here hx rfl (hb hby at_188) rfl (teq (by decide)).2 ?_
     refine XS.iconst X241.here hx rfl (hb hby at_191) ?_
     refine XS.goto X241.here hx rfl (pc0 := 192) (pc' := 196) rfl (hb hby at_192) (by decide) (by decide) ?_
     exact retN X241 hx (t := .boolean) Bd.returns (by simp) (hb hby at_196) hr
    ·show Q0 Z p0 p1 p2 p3 tt ct cst fv h0 n0 _ T241.heap _
     rw [eh241]
     exact ⟨rfl, N241⟩
   ·skip
    have G243 : ∀ t, Steps p.tables e below (T37.setTop (mkF m 66 #[iv p0, iv p1, iv p2, iv p3, iv c0, iv c1, iv c2, rv b6, rv b30, iv 3, iv 3, .unset, .unset, .unset, .unset, .unset] [(.int (3 : Int32))])) t → Steps p.tables e below (s₁.setTop (entryFrame m #[(.int p0), (.int p1), (.int p2), (.int p3)] maxLocals)) t := by
     intro t kt
     refine G44 _ ?_
     show Steps p.tables e below (T37.setTop (mkF m 64 #[iv p0, iv p1, iv p2, iv p3, iv c0, iv c1, iv c2, rv b6, rv b30, iv 3, iv 3, .unset, .unset, .unset, .unset, .unset] [])) _
     refine XS.iload X37.here hx rfl (hb hby at_64) rfl ?_
     exact kt
    have G244 : ∀ t, Steps p.tables e below (T37.setTop (mkF m 85 #[iv p0, iv p1, iv p2, iv p3, iv c0, iv c1, iv c2, rv b6, rv b30, iv 3, iv 3, iv 0, .unset, .unset, .unset, .unset] [(.int (1 : Int32)), (.int (3 : Int32))])) t → Steps p.tables e below (s₁.setTop (entryFrame m #[(.int p0), (.int p1), (.int p2), (.int p3)] maxLocals)) t := by
     intro t kt
     refine G243 _ ?_
     refine XS.ifYes X37.here hx rfl (pc0 := 66) (pc' := 79) rfl (hb hby at_66) rfl ((if0 _ _).trans (tlt (by decide)).2.2.1) (by decide) (by decide) ?_
     refine XS.iconst X37.here hx rfl (hb hby at_79) ?_
     refine XS.istore X37.here hx rfl (hb hby at_80) rfl (l' := #[iv p0, iv p1, iv p2, iv p3, iv c0, iv c1, iv c2, rv b6, rv b30, iv 3, iv 3, iv 0, .unset, .unset, .unset, .unset]) rfl ?_
     refine XS.iload X37.here hx rfl (hb hby at_82) rfl ?_
     refine XS.iconst X37.here hx rfl (hb hby at_84) ?_
     exact kt
    have G245 : ∀ t, Steps p.tables e below (T37.setTop (mkF m 104 #[iv p0, iv p1, iv p2, iv p3, iv c0, iv c1, iv c2, rv b6, rv b30, iv 3, iv 3, iv 0, iv 0, .unset, .unset, .unset] [(.int (2 : Int32)), (.int (3 : Int32))])) t → Steps p.tables e below (s₁.setTop (entryFrame m #[(.int p0), (.int p1), (.int p2), (.int p3)] maxLocals)) t := by
     intro t kt
     refine G244 _ ?_
     refine XS.icmpYes X37.here hx rfl (pc0 := 85) (pc' := 98) rfl (hb hby at_85) rfl (tlt (by decide)).2.2.1 (by decide) (by decide) ?_
     refine XS.iconst X37.here hx rfl (hb hby at_98) ?_
     refine XS.istore X37.here hx rfl (hb hby at_99) rfl (l' := #[iv p0, iv p1, iv p2, iv p3, iv c0, iv c1, iv c2, rv b6, rv b30, iv 3, iv 3, iv 0, iv 0, .unset, .unset, .unset]) rfl ?_
     refine XS.iload X37.here hx rfl (hb hby at_101) rfl ?_
     refine XS.iconst X37.here hx rfl (hb hby at_103) ?_
     exact kt
    have G246 : ∀ t, Steps p.tables e below (T37.setTop (mkF m 124 #[iv p0, iv p1, iv p2, iv p3, iv c0, iv c1, iv c2, rv b6, rv b30, iv 3, iv 3, iv 0, iv 0, iv 0, .unset, .unset] [(.int (3 : Int32)), (.int (3 : Int32))])) t → Steps p.tables e below (s₁.setTop (entryFrame m #[(.int p0), (.int p1), (.int p2), (.int p3)] maxLocals)) t := by
     intro t kt
     refine G245 _ ?_
     refine XS.icmpYes X37.here hx rfl (pc0 := 104) (pc' := 117) rfl (hb hby at_104) rfl (tlt (by decide)).2.2.1 (by decide) (by decide) ?_
     refine XS.iconst X37.here hx rfl (hb hby at_117) ?_
     refine XS.istore X37.here hx rfl (hb hby at_118) rfl (l' := #[iv p0, iv p1, iv p2, iv p3, iv c0, iv c1, iv c2, rv b6, rv b30, iv 3, iv 3, iv 0, iv 0, iv 0, .unset, .unset]) rfl ?_
     refine XS.iload X37.here hx rfl (hb hby at_120) rfl ?_
     refine XS.iload X37.here hx rfl (hb hby at_122) rfl ?_
     exact kt
    obtain ⟨_, _, ⟨T247, L247, k247, n247⟩, -, X247, ⟨Lc247, hQ247, l247, y247, z247⟩, st247⟩ := Jvm.LawKit.callS X37 hx (y := (⟨"com/example/wary_bearer/warybearer/http/Http1Reader", "isToken", "(Ljava/lang/String;II)Z"⟩ : MethodName)) hown (mvT hZ (hw _ (List.mem_of_getElem? (i := 35) rfl))) (mvT hZ (hw _ (List.mem_of_getElem? (i := 36) rfl))) (mvT hZ (hw _ (List.mem_of_getElem? (i := 37) rfl))) (mvT hZ (hw _ (List.mem_of_getElem? (i := 38) rfl))) (by decide) (backOf (W := 0) (rmTok0 l Z a0 hw [] b30 (3 : Int32) (3 : Int32) T37.heap n0 z41 (by decide)) hZ (hw _ (List.mem_of_getElem? (i := 38) rfl)) (hw _ (List.mem_of_getElem? (i := 37) rfl)) (by decide) (by decide)) (g := (mkF m 179 #[iv p0, iv p1, iv p2, iv p3, iv c0, iv c1, iv c2, rv b6, rv b30, iv 3, iv 3, iv 0, iv 0, iv 0, iv 0, .unset] [(.int (3 : Int32)), (.int (3 : Int32)), (.ref b30)])) rfl (by rw [hml]; rfl) (argsL := [(.ref b30), (.int (3 : Int32)), (.int (3 : Int32))]) (rest := []) (lenOf pd_15 rfl) rfl (by show 2 * 0 + _ ≤ _; exact Nat.le_of_eq rfl) (hb hby at_179) (fun _ _ => ⟨rfl, rfl, (by decide : 4 + 0 ≤ _), (by decide : 16 + 0 ≤ _)⟩)
    dsimp only [Pt.U, Pt.locs, Pt.cells, Pt.slots] at X247 l247 y247 z247 st247 hQ247
    subst l247 y247 z247
    obtain ⟨rfl, N247q, eh247⟩ := hQ247
    have N247 := Fr.app N37 N247q
    have G248 : ∀ t, Steps p.tables e below (T247.setTop (mkF m 188 #[iv p0, iv p1, iv p2, iv p3, iv c0, iv c1, iv c2, rv b6, rv b30, iv 3, iv 3, iv 0, iv 0, iv 0, iv 0, iv 0] [(.int (0 : Int32)), (.int (0 : Int32))])) t → Steps p.tables e below (s₁.setTop (entryFrame m #[(.int p0), (.int p1), (.int p2), (.int p3)] maxLocals)) t := by
     intro t kt
     refine G246 _ ?_
     refine XS.icmpYes X37.here hx rfl (pc0 := 124) (pc' := 170) rfl (hb hby at_124) rfl (flt (by decide)).2.1 (by decide) (by decide) ?_
     refine XS.iconst X37.here hx rfl (hb hby at_170) ?_
     refine XS.istore X37.here hx rfl (hb hby at_171) rfl (l' := #[iv p0, iv p1, iv p2, iv p3, iv c0, iv c1, iv c2, rv b6, rv b30, iv 3, iv 3, iv 0, iv 0, iv 0, iv 0, .unset]) rfl ?_
     refine XS.aload X37.here hx rfl (hb hby at_173) rfl rfl ?_
     refine XS.iload X37.here hx rfl (hb hby at_175) rfl ?_
     refine XS.iload X37.here hx rfl (hb hby at_177) rfl ?_
     refine st247 _ ?_
     refine XS.istore X247.here hx rfl (hb hby at_182) rfl (l' := #[iv p0, iv p1, iv p2, iv p3, iv c0, iv c1, iv c2, rv b6, rv b30, iv 3, iv 3, iv 0, iv 0, iv 0, iv 0, iv 0]) rfl ?_
     show Steps p.tables e below (T247.setTop (mkF m 184 #[iv p0, iv p1, iv p2, iv p3, iv c0, iv c1, iv c2, rv b6, rv b30, iv 3, iv 3, iv 0, iv 0, iv 0, iv 0, iv 0] [])) _
     refine XS.iload X247.here hx rfl (hb hby at_184) rfl ?_
     refine XS.iload X247.here hx rfl (hb hby at_186) rfl ?_
     exact kt
    obtain ⟨fs, hr, hrun, hended, hW, hsame⟩ := X247.leave (v := some (.int (1 : Int32))) (fun h => by rw [Bd.returns] at h; cases h)
    refine ⟨_, _, G248 _ ?_, hrun, hended, _, _, rfl, ?_, ⟨_, rfl⟩, hW, hsame.mono (by decide) (by decide)⟩
    ·skip
     refine XS.icmpNo X247.here hx rfl (hb hby at_188) rfl (teq (by decide)).2 ?_
     refine XS.iconst X247.here hx rfl (hb hby at_191) ?_
     refine XS.goto X247.here hx rfl (pc0 := 192) (pc' := 196) rfl (hb hby at_192) (by decide) (by decide) ?_
     exact retN X247 hx (t := .boolean) Bd.returns (by simp) (hb hby at_196) hr
    ·show Q0 Z p0 p1 p2 p3 tt ct cst fv h0 n0 _ T247.heap _
     rw [eh247]
     exact ⟨rfl, N247⟩
 ·skip
  have N37 := Fr.app N24 N37q
  have szk37 : h0.size ≤ ta37 := Nat.le_trans kp34.1 sz37
  have ne_b6_ta37 : b6 ≠ ta37 := Nat.ne_of_lt (Nat.lt_of_lt_of_le fa32.lt sz37)
  have ne_b30_ta37 : b30 ≠ ta37 := Nat.ne_of_lt (Nat.lt_of_lt_of_le A30.lt sz37)
  have fa249 : Old Z n0 T37.heap := fa31.keep K37 (allS g_b30 all0)
  have fa250 : Arv Z T37.heap b6 k6 .char (3 : Int32) [(.int c0), (.int c1), (.int c2)] (.int (0 : Int32)) := fa32.keep K37 (ninS ne_b6_b30 nin0)
  have fa251 : Exa Z T37.heap b30 "java/lang/String" := A30.keep K37
  have z252 : n0 ≤ T37.heap.size := Nat.le_trans z33 K37.1
  have kp253 : Keep h0 T37.heap [] := kp34.trans K37 (allS (Or.inr sz_b30) all0)
  have G254 : ∀ t, Steps p.tables e below (T37.setTop (mkF m 64 #[iv p0, iv p1, iv p2, iv p3, iv c0, iv c1, iv c2, rv b6, rv b30, iv (p3 &&& (3 : Int32)), iv (((p3.toUInt32 >>> ((2 : Int32) &&& 31).toUInt32).toInt32) &&& (3 : Int32)), .unset, .unset, .unset, .unset, .unset] [])) t → Steps p.tables e below (s₁.setTop (entryFrame m #[(.int p0), (.int p1), (.int p2), (.int p3)] maxLocals)) t := by
   intro t kt
   refine G5 _ ?_
   refine XS.iconst X3.here hx rfl (hb hby at_18) ?_
   refine st6 _ ?_
   refine XS.astore X6.here hx rfl (hb hby at_21) rfl rfl (l' := #[iv p0, iv p1, iv p2, iv p3, iv c0, iv c1, iv c2, rv b6, .unset, .unset, .unset, .unset, .unset, .unset, .unset, .unset]) rfl ?_
   refine XS.aload X6.here hx rfl (hb hby at_23) rfl rfl ?_
   refine XS.iconst X6.here hx rfl (hb hby at_25) ?_
   refine XS.iload X6.here hx rfl (hb hby at_26) rfl ?_
   refine st12 _ ?_
   refine XS.aload X12.here hx rfl (hb hby at_29) rfl rfl ?_
   refine XS.iconst X12.here hx rfl (hb hby at_31) ?_
   refine XS.iload X12.here hx rfl (hb hby at_32) rfl ?_
   show Steps p.tables e below (T12.setTop (mkF m 34 #[iv p0, iv p1, iv p2, iv p3, iv c0, iv c1, iv c2, rv b6, .unset, .unset, .unset, .unset, .unset, .unset, .unset, .unset] [(.int c1), (.int (1 : Int32)), (.ref b6)])) _
   refine st18 _ ?_
   refine XS.aload X18.here hx rfl (hb hby at_35) rfl rfl ?_
   refine XS.iconst X18.here hx rfl (hb hby at_37) ?_
   refine XS.iload X18.here hx rfl (hb hby at_38) rfl ?_
   refine st24 _ ?_
   refine st30 _ ?_
   refine XS.dup X30.here hx rfl (hb hby at_44) rfl rfl ?_
   refine XS.aload X30.here hx rfl (hb hby at_45) rfl rfl ?_
   refine st37.trans ?_
   refine XS.astore X37.here hx rfl (hb hby at_50) rfl rfl (l' := #[iv p0, iv p1, iv p2, iv p3, iv c0, iv c1, iv c2, rv b6, rv b30, .unset, .unset, .unset, .unset, .unset, .unset, .unset]) rfl ?_
   refine XS.iloadN X37.here hx rfl (hb hby at_52) rfl ?_
   refine XS.iconst X37.here hx rfl (hb hby at_53) ?_
   refine XS.iand X37.here hx rfl (hb hby at_54) rfl ?_
   refine XS.istore X37.here hx rfl (hb hby at_55) rfl (l' := #[iv p0, iv p1, iv p2, iv p3, iv c0, iv c1, iv c2, rv b6, rv b30, iv (p3 &&& (3 : Int32)), .unset, .unset, .unset, .unset, .unset, .unset]) rfl ?_
   refine XS.iloadN X37.here hx rfl (hb hby at_57) rfl ?_
   refine XS.iconst X37.here hx rfl (hb hby at_58) ?_
   refine XS.iushr X37.here hx rfl (hb hby at_59) rfl ?_
   refine XS.iconst X37.here hx rfl (hb hby at_60) ?_
   refine XS.iand X37.here hx rfl (hb hby at_61) rfl ?_
   refine XS.istore X37.here hx rfl (hb hby at_62) rfl (l' := #[iv p0, iv p1, iv p2, iv p3, iv c0, iv c1, iv c2, rv b6, rv b30, iv (p3 &&& (3 : Int32)), iv (((p3.toUInt32 >>> ((2 : Int32) &&& 31).toUInt32).toInt32) &&& (3 : Int32)), .unset, .unset, .unset, .unset, .unset]) rfl ?_
   exact kt
  obtain ⟨fr, hfr⟩ : ∃ z : Int32, z = (p3 &&& (3 : Int32)) := ⟨_, rfl⟩
  obtain ⟨to_, hto_⟩ : ∃ z : Int32, z = (((p3.toUInt32 >>> ((2 : Int32) &&& 31).toUInt32).toInt32) &&& (3 : Int32)) := ⟨_, rfl⟩
  have G255 : ∀ t, Steps p.tables e below (T37.setTop (mkF m 64 #[iv p0, iv p1, iv p2, iv p3, iv c0, iv c1, iv c2, rv b6, rv b30, iv fr, iv to_, .unset, .unset, .unset, .unset, .unset] [])) t → Steps p.tables e below (s₁.setTop (entryFrame m #[(.int p0), (.int p1), (.int p2), (.int p3)] maxLocals)) t := by
   intro t kt
   rw [hfr, hto_] at kt
   exact G254 t kt
  have hfr4 : 0 ≤ fr.toInt ∧ fr.toInt ≤ 3 := by rw [hfr]; exact own_m3 _
  have hto4 : 0 ≤ to_.toInt ∧ to_.toInt ≤ 3 := by rw [hto_]; exact own_m3 _
  rcases own_at4 hfr4 with rfl | rfl | rfl | rfl
  ·rcases own_at4 hto4 with rfl | rfl | rfl | rfl
   ·skip
    have G256 : ∀ t, Steps p.tables e below (T37.setTop (mkF m 66 #[iv p0, iv p1, iv p2, iv p3, iv c0, iv c1, iv c2, rv b6, rv b30, iv 0, iv 0, .unset, .unset, .unset, .unset, .unset] [(.int (0 : Int32))])) t → Steps p.tables e below (s₁.setTop (entryFrame m #[(.int p0), (.int p1), (.int p2), (.int p3)] maxLocals)) t := by
     intro t kt
     refine G255 _ ?_
     show Steps p.tables e below (T37.setTop (mkF m 64 #[iv p0, iv p1, iv p2, iv p3, iv c0, iv c1, iv c2, rv b6, rv b30, iv 0, iv 0, .unset, .unset, .unset, .unset, .unset] [])) _
     refine XS.iload X37.here hx rfl (hb hby at_64) rfl ?_
     exact kt
    have G257 : ∀ t, Steps p.tables e below (T37.setTop (mkF m 72 #[iv p0, iv p1, iv p2, iv p3, iv c0, iv c1, iv c2, rv b6, rv b30, iv 0, iv 0, .unset, .unset, .unset, .unset, .unset] [(.int (0 : Int32)), (.int (0 : Int32))])) t → Steps p.tables e below (s₁.setTop (entryFrame m #[(.int p0), (.int p1), (.int p2), (.int p3)] maxLocals)) t := by
     intro t kt
     refine G256 _ ?_
     refine XS.ifNo X37.here hx rfl (hb hby at_66) rfl ((if0 _ _).trans (flt (by decide)).2.2.1) ?_
     refine XS.iconst X37.here hx rfl (hb hby at_69) ?_
     refine XS.iload X37.here hx rfl (hb hby at_70) rfl ?_
     exact kt
    have G258 : ∀ t, Steps p.tables e below (T37.setTop (mkF m 85 #[iv p0, iv p1, iv p2, iv p3, iv c0, iv c1, iv c2, rv b6, rv b30, iv 0, iv 0, iv 0, .unset, .unset, .unset, .unset] [(.int (1 : Int32)), (.int (0 : Int32))])) t → Steps p.tables e below (s₁.setTop (entryFrame m #[(.int p0), (.int p1), (.int p2), (.int p3)] maxLocals)) t := by
     intro t kt
     refine G257 _ ?_
     refine XS.icmpYes X37.here hx rfl (pc0 := 72) (pc' := 79) rfl (hb hby at_72) rfl (flt (by decide)).2.1 (by decide) (by decide) ?_
     refine XS.iconst X37.here hx rfl (hb hby at_79) ?_
     refine XS.istore X37.here hx rfl (hb hby at_80) rfl (l' := #[iv p0, iv p1, iv p2, iv p3, iv c0, iv c1, iv c2, rv b6, rv b30, iv 0, iv 0, iv 0, .unset, .unset, .unset, .unset]) rfl ?_
     refine XS.iload X37.here hx rfl (hb hby at_82) rfl ?_
     refine XS.iconst X37.here hx rfl (hb hby at_84) ?_
     exact kt
    have G259 : ∀ t, Steps p.tables e below (T37.setTop (mkF m 91 #[iv p0, iv p1, iv p2, iv p3, iv c0, iv c1, iv c2, rv b6, rv b30, iv 0, iv 0, iv 0, .unset, .unset, .unset, .unset] [(.int (0 : Int32)), (.int (1 : Int32))])) t → Steps p.tables e below (s₁.setTop (entryFrame m #[(.int p0), (.int p1), (.int p2), (.int p3)] maxLocals)) t := by
     intro t kt
     refine G258 _ ?_
     refine XS.icmpNo X37.here hx rfl (hb hby at_85) rfl (flt (by decide)).2.2.1 ?_
     refine XS.iconst X37.here hx rfl (hb hby at_88) ?_
     refine XS.iload X37.here hx rfl (hb hby at_89) rfl ?_
     exact kt
    have G260 : ∀ t, Steps p.tables e below (T37.setTop (mkF m 104 #[iv p0, iv p1, iv p2, iv p3, iv c0, iv c1, iv c2, rv b6, rv b30, iv 0, iv 0, iv 0, iv 0, .unset, .unset, .unset] [(.int (2 : Int32)), (.int (0 : Int32))])) t → Steps p.tables e below (s₁.setTop (entryFrame m #[(.int p0), (.int p1), (.int p2), (.int p3)] maxLocals)) t := by
     intro t kt
     refine G259 _ ?_
     refine XS.icmpYes X37.here hx rfl (pc0 := 91) (pc' := 98) rfl (hb hby at_91) rfl (flt (by decide)).2.1 (by decide) (by decide) ?_
     refine XS.iconst X37.here hx rfl (hb hby at_98) ?_
     refine XS.istore X37.here hx rfl (hb hby at_99) rfl (l' := #[iv p0, iv p1, iv p2, iv p3, iv c0, iv c1, iv c2, rv b6, rv b30, iv 0, iv 0, iv 0, iv 0, .unset, .unset, .unset]) rfl ?_
     refine XS.iload X37.here hx rfl (hb hby at_101) rfl ?_
     refine XS.iconst X37.here hx rfl (hb hby at_103) ?_
     exact kt
    have G261 : ∀ t, Steps p.tables e below (T37.setTop (mkF m 110 #[iv p0, iv p1, iv p2, iv p3, iv c0, iv c1, iv c2, rv b6, rv b30, iv 0, iv 0, iv 0, iv 0, .unset, .unset, .unset] [(.int (0 : Int32)), (.int (2 : Int32))])) t → Steps p.tables e below (s₁.setTop (entryFrame m #[(.int p0), (.int p1), (.int p2), (.int p3)] maxLocals)) t := by
     intro t kt
     refine G260 _ ?_
     refine XS.icmpNo X37.here hx rfl (hb hby at_104) rfl (flt (by decide)).2.2.1 ?_
     refine XS.iconst X37.here hx rfl (hb hby at_107) ?_
     refine XS.iload X37.here hx rfl (hb hby at_108) rfl ?_
     exact kt
    have G262 : ∀ t, Steps p.tables e below (T37.setTop (mkF m 124 #[iv p0, iv p1, iv p2, iv p3, iv c0, iv c1, iv c2, rv b6, rv b30, iv 0, iv 0, iv 0, iv 0, iv 0, .unset, .unset] [(.int (0 : Int32)), (.int (0 : Int32))])) t → Steps p.tables e below (s₁.setTop (entryFrame m #[(.int p0), (.int p1), (.int p2), (.int p3)] maxLocals)) t := by
     intro t kt
     refine G261 _ ?_
     refine XS.icmpYes X37.here hx rfl (pc0 := 110) (pc' := 117) rfl (hb hby at_110) rfl (flt (by decide)).2.1 (by decide) (by decide) ?_
     refine XS.iconst X37.here hx rfl (hb hby at_117) ?_
     refine XS.istore X37.here hx rfl (hb hby at_118) rfl (l' := #[iv p0, iv p1, iv p2, iv p3, iv c0, iv c1, iv c2, rv b6, rv b30, iv 0, iv 0, iv 0, iv 0, iv 0, .unset, .unset]) rfl ?_
     refine XS.iload X37.here hx rfl (hb hby at_120) rfl ?_
     refine XS.iload X37.here hx rfl (hb hby at_122) rfl ?_
     exact kt
    obtain ⟨_, _, ⟨T263, L263, k263, n263⟩, -, X263, ⟨Lc263, hQ263, l263, y263, z263⟩, st263⟩ := Jvm.LawKit.callS X37 hx (y := (⟨"com/example/wary_bearer/warybearer/http/Http1Reader", "isToken", "(Ljava/lang/String;II)Z"⟩ : MethodName)) hown (mvT hZ (hw _ (List.mem_of_getElem? (i := 35) rfl))) (mvT hZ (hw _ (List.mem_of_getElem? (i := 36) rfl))) (mvT hZ (hw _ (List.mem_of_getElem? (i := 37) rfl))) (mvT hZ (hw _ (List.mem_of_getElem? (i := 38) rfl))) (by decide) (backOf (W := 0) (rmTok0 l Z a0 hw [] b30 (0 : Int32) (0 : Int32) T37.heap n0 z252 (by decide)) hZ (hw _ (List.mem_of_getElem? (i := 38) rfl)) (hw _ (List.mem_of_getElem? (i := 37) rfl)) (by decide) (by decide)) (g := (mkF m 179 #[iv p0, iv p1, iv p2, iv p3, iv c0, iv c1, iv c2, rv b6, rv b30, iv 0, iv 0, iv 0, iv 0, iv 0, iv 0, .unset] [(.int (0 : Int32)), (.int (0 : Int32)), (.ref b30)])) rfl (by rw [hml]; rfl) (argsL := [(.ref b30), (.int (0 : Int32)), (.int (0 : Int32))]) (rest := []) (lenOf pd_15 rfl) rfl (by show 2 * 0 + _ ≤ _; exact Nat.le_of_eq rfl) (hb hby at_179) (fun _ _ => ⟨rfl, rfl, (by decide : 4 + 0 ≤ _), (by decide : 16 + 0 ≤ _)⟩)
    dsimp only [Pt.U, Pt.locs, Pt.cells, Pt.slots] at X263 l263 y263 z263 st263 hQ263
    subst l263 y263 z263
    obtain ⟨rfl, N263q, eh263⟩ := hQ263
    have N263 := Fr.app N37 N263q
    have G264 : ∀ t, Steps p.tables e below (T263.setTop (mkF m 188 #[iv p0, iv p1, iv p2, iv p3, iv c0, iv c1, iv c2, rv b6, rv b30, iv 0, iv 0, iv 0, iv 0, iv 0, iv 0, iv 0] [(.int (0 : Int32)), (.int (0 : Int32))])) t → Steps p.tables e below (s₁.setTop (entryFrame m #[(.int p0), (.int p1), (.int p2), (.int p3)] maxLocals)) t := by
     intro t kt
     refine G262 _ ?_
     refine XS.icmpYes X37.here hx rfl (pc0 := 124) (pc' := 170) rfl (hb hby at_124) rfl (flt (by decide)).2.1 (by decide) (by decide) ?_
     refine XS.iconst X37.here hx rfl (hb hby at_170) ?_
     show Steps p.tables e below (T37.setTop (mkF m 171 #[iv p0, iv p1, iv p2, iv p3, iv c0, iv c1, iv c2, rv b6, rv b30, iv 0, iv 0, iv 0, iv 0, iv 0, .unset, .unset] [(.int (0 : Int32))])) _
     refine XS.istore X37.here hx rfl (hb hby at_171) rfl (l' := #[iv p0, iv p1, iv p2, iv p3, iv c0, iv c1, iv c2, rv b6, rv b30, iv 0, iv 0, iv 0, iv 0, iv 0, iv 0, .unset]) rfl ?_
     refine XS.aload X37.here hx rfl (hb hby at_173) rfl rfl ?_
     refine XS.iload X37.here hx rfl (hb hby at_175) rfl ?_
     refine XS.iload X37.here hx rfl (hb hby at_177) rfl ?_
     refine st263 _ ?_
     refine XS.istore X263.here hx rfl (hb hby at_182) rfl (l' := #[iv p0, iv p1, iv p2, iv p3, iv c0, iv c1, iv c2, rv b6, rv b30, iv 0, iv 0, iv 0, iv 0, iv 0, iv 0, iv 0]) rfl ?_
     refine XS.iload X263.here hx rfl (hb hby at_184) rfl ?_
     refine XS.iload X263.here hx rfl (hb hby at_186) rfl ?_
     exact kt
    obtain ⟨fs, hr, hrun, hended, hW, hsame⟩ := X263.leave (v := some (.int (1 : Int32))) (fun h => by rw [Bd.returns] at h; cases h)
    refine ⟨_, _, G264 _ ?_, hrun, hended, _, _, rfl, ?_, ⟨_, rfl⟩, hW, hsame.mono (by decide) (by decide)⟩
    ·skip
     refine XS.icmpNo X263.here hx rfl (hb hby at_188) rfl (teq (by decide)).2 ?_
     refine XS.iconst X263.here hx rfl (hb hby at_191) ?_
     refine XS.goto X263.here hx rfl (pc0 := 192) (pc' := 196) rfl (hb hby at_192) (by decide) (by decide) ?_
     exact retN X263 hx (t := .boolean) Bd.returns (by simp) (hb hby at_196) hr
    ·show Q0 Z p0 p1 p2 p3 tt ct cst fv h0 n0 _ T263.heap _
     rw [eh263]
     exact ⟨rfl, N263⟩
   ·skip
    have G265 : ∀ t, Steps p.tables e below (T37.setTop (mkF m 66 #[iv p0, iv p1, iv p2, iv p3, iv c0, iv c1, iv c2, rv b6, rv b30, iv 0, iv 1, .unset, .unset, .unset, .unset, .unset] [(.int (0 : Int32))])) t → Steps p.tables e below (s₁.setTop (entryFrame m #[(.int p0), (.int p1), (.int p2), (.int p3)] maxLocals)) t := by
     intro t kt
     refine G255 _ ?_
     show Steps p.tables e below (T37.setTop (mkF m 64 #[iv p0, iv p1, iv p2, iv p3, iv c0, iv c1, iv c2, rv b6, rv b30, iv 0, iv 1, .unset, .unset, .unset, .unset, .unset] [])) _
     refine XS.iload X37.here hx rfl (hb hby at_64) rfl ?_
     exact kt
    have G266 : ∀ t, Steps p.tables e below (T37.setTop (mkF m 72 #[iv p0, iv p1, iv p2, iv p3, iv c0, iv c1, iv c2, rv b6, rv b30, iv 0, iv 1, .unset, .unset, .unset, .unset, .unset] [(.int (1 : Int32)), (.int (0 : Int32))])) t → Steps p.tables e below (s₁.setTop (entryFrame m #[(.int p0), (.int p1), (.int p2), (.int p3)] maxLocals)) t := by
     intro t kt
     refine G265 _ ?_
     refine XS.ifNo X37.here hx rfl (hb hby at_66) rfl ((if0 _ _).trans (flt (by decide)).2.2.1) ?_
     refine XS.iconst X37.here hx rfl (hb hby at_69) ?_
     refine XS.iload X37.here hx rfl (hb hby at_70) rfl ?_
     exact kt
    have G267 : ∀ t, Steps p.tables e below (T37.setTop (mkF m 85 #[iv p0, iv p1, iv p2, iv p3, iv c0, iv c1, iv c2, rv b6, rv b30, iv 0, iv 1, iv 1, .unset, .unset, .unset, .unset] [(.int (1 : Int32)), (.int (0 : Int32))])) t → Steps p.tables e below (s₁.setTop (entryFrame m #[(.int p0), (.int p1), (.int p2), (.int p3)] maxLocals)) t := by
     intro t kt
     refine G266 _ ?_
     refine XS.icmpNo X37.here hx rfl (hb hby at_72) rfl (tlt (by decide)).2.1 ?_
     refine XS.iconst X37.here hx rfl (hb hby at_75) ?_
     refine XS.goto X37.here hx rfl (pc0 := 76) (pc' := 80) rfl (hb hby at_76) (by decide) (by decide) ?_
     refine XS.istore X37.here hx rfl (hb hby at_80) rfl (l' := #[iv p0, iv p1, iv p2, iv p3, iv c0, iv c1, iv c2, rv b6, rv b30, iv 0, iv 1, iv 1, .unset, .unset, .unset, .unset]) rfl ?_
     refine XS.iload X37.here hx rfl (hb hby at_82) rfl ?_
     refine XS.iconst X37.here hx rfl (hb hby at_84) ?_
     exact kt
    have G268 : ∀ t, Steps p.tables e below (T37.setTop (mkF m 91 #[iv p0, iv p1, iv p2, iv p3, iv c0, iv c1, iv c2, rv b6, rv b30, iv 0, iv 1, iv 1, .unset, .unset, .unset, .unset] [(.int (1 : Int32)), (.int (1 : Int32))])) t → Steps p.tables e below (s₁.setTop (entryFrame m #[(.int p0), (.int p1), (.int p2), (.int p3)] maxLocals)) t := by
     intro t kt
     refine G267 _ ?_
     refine XS.icmpNo X37.here hx rfl (hb hby at_85) rfl (flt (by decide)).2.2.1 ?_
     refine XS.iconst X37.here hx rfl (hb hby at_88) ?_
     refine XS.iload X37.here hx rfl (hb hby at_89) rfl ?_
     exact kt
    have G269 : ∀ t, Steps p.tables e below (T37.setTop (mkF m 104 #[iv p0, iv p1, iv p2, iv p3, iv c0, iv c1, iv c2, rv b6, rv b30, iv 0, iv 1, iv 1, iv 0, .unset, .unset, .unset] [(.int (2 : Int32)), (.int (0 : Int32))])) t → Steps p.tables e below (s₁.setTop (entryFrame m #[(.int p0), (.int p1), (.int p2), (.int p3)] maxLocals)) t := by
     intro t kt
     refine G268 _ ?_
     refine XS.icmpYes X37.here hx rfl (pc0 := 91) (pc' := 98) rfl (hb hby at_91) rfl (flt (by decide)).2.1 (by decide) (by decide) ?_
     refine XS.iconst X37.here hx rfl (hb hby at_98) ?_
     refine XS.istore X37.here hx rfl (hb hby at_99) rfl (l' := #[iv p0, iv p1, iv p2, iv p3, iv c0, iv c1, iv c2, rv b6, rv b30, iv 0, iv 1, iv 1, iv 0, .unset, .unset, .unset]) rfl ?_
     refine XS.iload X37.here hx rfl (hb hby at_101) rfl ?_
     refine XS.iconst X37.here hx rfl (hb hby at_103) ?_
     exact kt
    have G270 : ∀ t, Steps p.tables e below (T37.setTop (mkF m 110 #[iv p0, iv p1, iv p2, iv p3, iv c0, iv c1, iv c2, rv b6, rv b30, iv 0, iv 1, iv 1, iv 0, .unset, .unset, .unset] [(.int (1 : Int32)), (.int (2 : Int32))])) t → Steps p.tables e below (s₁.setTop (entryFrame m #[(.int p0), (.int p1), (.int p2), (.int p3)] maxLocals)) t := by
     intro t kt
     refine G269 _ ?_
     refine XS.icmpNo X37.here hx rfl (hb hby at_104) rfl (flt (by decide)).2.2.1 ?_
     refine XS.iconst X37.here hx rfl (hb hby at_107) ?_
     refine XS.iload X37.here hx rfl (hb hby at_108) rfl ?_
     exact kt
    have G271 : ∀ t, Steps p.tables e below (T37.setTop (mkF m 124 #[iv p0, iv p1, iv p2, iv p3, iv c0, iv c1, iv c2, rv b6, rv b30, iv 0, iv 1, iv 1, iv 0, iv 0, .unset, .unset] [(.int (1 : Int32)), (.int (0 : Int32))])) t → Steps p.tables e below (s₁.setTop (entryFrame m #[(.int p0), (.int p1), (.int p2), (.int p3)] maxLocals)) t := by
     intro t kt
     refine G270 _ ?_
     refine XS.icmpYes X37.here hx rfl (pc0 := 110) (pc' := 117) rfl (hb hby at_110) rfl (flt (by decide)).2.1 (by decide) (by decide) ?_
     refine XS.iconst X37.here hx rfl (hb hby at_117) ?_
     refine XS.istore X37.here hx rfl (hb hby at_118) rfl (l' := #[iv p0, iv p1, iv p2, iv p3, iv c0, iv c1, iv c2, rv b6, rv b30, iv 0, iv 1, iv 1, iv 0, iv 0, .unset, .unset]) rfl ?_
     refine XS.iload X37.here hx rfl (hb hby at_120) rfl ?_
     refine XS.iload X37.here hx rfl (hb hby at_122) rfl ?_
     exact kt
    have G272 : ∀ t, Steps p.tables e below (T37.setTop (mkF m 129 #[iv p0, iv p1, iv p2, iv p3, iv c0, iv c1, iv c2, rv b6, rv b30, iv 0, iv 1, iv 1, iv 0, iv 0, .unset, .unset] [(.int (1 : Int32))])) t → Steps p.tables e below (s₁.setTop (entryFrame m #[(.int p0), (.int p1), (.int p2), (.int p3)] maxLocals)) t := by
     intro t kt
     refine G271 _ ?_
     refine XS.icmpNo X37.here hx rfl (hb hby at_124) rfl (tlt (by decide)).2.1 ?_
     show Steps p.tables e below (T37.setTop (mkF m 127 #[iv p0, iv p1, iv p2, iv p3, iv c0, iv c1, iv c2, rv b6, rv b30, iv 0, iv 1, iv 1, iv 0, iv 0, .unset, .unset] [])) _
     refine XS.iload X37.here hx rfl (hb hby at_127) rfl ?_
     exact kt
    obtain ⟨_, _, ⟨T273, L273, k273, n273⟩, -, X273, ⟨Lc273, hQ273, l273, y273, z273⟩, st273⟩ := Jvm.LawKit.callS X37 hx (y := (⟨"com/example/wary_bearer/warybearer/http/Http1ReaderIsTokenPinLaw", "isT", "(C)Z"⟩ : MethodName)) hown (mvT hZ (hw _ (List.mem_of_getElem? (i := 59) rfl))) (mvT hZ (hw _ (List.mem_of_getElem? (i := 60) rfl))) (mvT hZ (hw _ (List.mem_of_getElem? (i := 2) rfl))) (mvT hZ (hw _ (List.mem_of_getElem? (i := 61) rfl))) (by decide) (backOf (W := 0) (rm14 l Z a0 hw [] c0  T37.heap n0 z252 ) hZ (hw _ (List.mem_of_getElem? (i := 61) rfl)) (hw _ (List.mem_of_getElem? (i := 2) rfl)) (by decide) (by decide)) (g := (mkF m 134 #[iv p0, iv p1, iv p2, iv p3, iv c0, iv c1, iv c2, rv b6, rv b30, iv 0, iv 1, iv 1, iv 0, iv 0, .unset, .unset] [(.int c0)])) rfl (by rw [hml]; rfl) (argsL := [(.int c0)]) (rest := []) (lenOf pd_16 rfl) rfl (by show 2 * 0 + _ ≤ _; exact Nat.le_of_eq rfl) (hb hby at_134) (fun _ _ => ⟨rfl, rfl, (by decide : 4 + 0 ≤ _), (by decide : 16 + 0 ≤ _)⟩)
    dsimp only [Pt.U, Pt.locs, Pt.cells, Pt.slots] at X273 l273 y273 z273 st273 hQ273
    subst l273 y273 z273
    obtain ⟨rfl, N273q, eh273⟩ := hQ273
    have N273 := Fr.app N37 N273q
    have G274 : ∀ t, Steps p.tables e below (T273.setTop (mkF m 137 #[iv p0, iv p1, iv p2, iv p3, iv c0, iv c1, iv c2, rv b6, rv b30, iv 0, iv 1, iv 1, iv 0, iv 0, .unset, .unset] [(.int (fisT c0))])) t → Steps p.tables e below (s₁.setTop (entryFrame m #[(.int p0), (.int p1), (.int p2), (.int p3)] maxLocals)) t := by
     intro t kt
     refine G272 _ ?_
     refine XS.ifNo X37.here hx rfl (hb hby at_129) rfl ((if0 _ _).trans (feq (by decide)).1) ?_
     refine XS.iload X37.here hx rfl (hb hby at_132) rfl ?_
     refine st273 _ ?_
     exact kt
    by_cases hc137_275 : (fisT c0) = (0 : Int32)
    ·skip
     obtain ⟨_, _, ⟨T276, L276, k276, n276⟩, -, X276, ⟨Lc276, hQ276, l276, y276, z276⟩, st276⟩ := Jvm.LawKit.callS X273 hx (y := (⟨"com/example/wary_bearer/warybearer/http/Http1Reader", "isToken", "(Ljava/lang/String;II)Z"⟩ : MethodName)) hown (mvT hZ (hw _ (List.mem_of_getElem? (i := 35) rfl))) (mvT hZ (hw _ (List.mem_of_getElem? (i := 36) rfl))) (mvT hZ (hw _ (List.mem_of_getElem? (i := 37) rfl))) (mvT hZ (hw _ (List.mem_of_getElem? (i := 38) rfl))) (by decide) (backOf (W := 0) (rmTokU01 l Z a0 hw [] b30 c0 c1 c2 ta37 kb37 tt ct cst fv T37.heap n0 z252 A37 Fc37 Fv37 V37 fa249 hb0 hb1 hb2 TS TA TS2 TV SS) hZ (hw _ (List.mem_of_getElem? (i := 38) rfl)) (hw _ (List.mem_of_getElem? (i := 37) rfl)) (by decide) (by decide)) (g := (mkF m 179 #[iv p0, iv p1, iv p2, iv p3, iv c0, iv c1, iv c2, rv b6, rv b30, iv 0, iv 1, iv 1, iv 0, iv 0, iv 0, .unset] [(.int (1 : Int32)), (.int (0 : Int32)), (.ref b30)])) rfl (by rw [hml]; rfl) (argsL := [(.ref b30), (.int (0 : Int32)), (.int (1 : Int32))]) (rest := []) (lenOf pd_15 rfl) rfl (by show 2 * 0 + _ ≤ _; exact Nat.le_of_eq rfl) (hb hby at_179) (fun _ _ => ⟨rfl, eh273, (by decide : 4 + 0 ≤ _), (by decide : 16 + 0 ≤ _)⟩)
     dsimp only [Pt.U, Pt.locs, Pt.cells, Pt.slots] at X276 l276 y276 z276 st276 hQ276
     subst l276 y276 z276
     obtain ⟨rfl, N276q, eh276⟩ := hQ276
     have N276 := Fr.app N273 N276q
     have G277 : ∀ t, Steps p.tables e below (T276.setTop (mkF m 188 #[iv p0, iv p1, iv p2, iv p3, iv c0, iv c1, iv c2, rv b6, rv b30, iv 0, iv 1, iv 1, iv 0, iv 0, iv 0, iv (own_tok [c0])] [(.int (0 : Int32)), (.int (own_tok [c0]))])) t → Steps p.tables e below (s₁.setTop (entryFrame m #[(.int p0), (.int p1), (.int p2), (.int p3)] maxLocals)) t := by
      intro t kt
      refine G274 _ ?_
      refine XS.ifYes X273.here hx rfl (pc0 := 137) (pc' := 170) rfl (hb hby at_137) rfl ((if0 _ _).trans (teq hc137_275).1) (by decide) (by decide) ?_
      refine XS.iconst X273.here hx rfl (hb hby at_170) ?_
      refine XS.istore X273.here hx rfl (hb hby at_171) rfl (l' := #[iv p0, iv p1, iv p2, iv p3, iv c0, iv c1, iv c2, rv b6, rv b30, iv 0, iv 1, iv 1, iv 0, iv 0, iv 0, .unset]) rfl ?_
      refine XS.aload X273.here hx rfl (hb hby at_173) rfl rfl ?_
      refine XS.iload X273.here hx rfl (hb hby at_175) rfl ?_
      refine XS.iload X273.here hx rfl (hb hby at_177) rfl ?_
      refine st276 _ ?_
      refine XS.istore X276.here hx rfl (hb hby at_182) rfl (l' := #[iv p0, iv p1, iv p2, iv p3, iv c0, iv c1, iv c2, rv b6, rv b30, iv 0, iv 1, iv 1, iv 0, iv 0, iv 0, iv (own_tok [c0])]) rfl ?_
      refine XS.iload X276.here hx rfl (hb hby at_184) rfl ?_
      refine XS.iload X276.here hx rfl (hb hby at_186) rfl ?_
      exact kt
     have hc188_278 : (own_tok [c0]) = (0 : Int32) := by rw [own_tok, if_pos hc137_275]
     obtain ⟨fs, hr, hrun, hended, hW, hsame⟩ := X276.leave (v := some (.int (1 : Int32))) (fun h => by rw [Bd.returns] at h; cases h)
     refine ⟨_, _, G277 _ ?_, hrun, hended, _, _, rfl, ?_, ⟨_, rfl⟩, hW, hsame.mono (by decide) (by decide)⟩
     ·skip
      refine XS.icmpNo X276.here hx rfl (hb hby at_188) rfl (teq hc188_278).2 ?_
      refine XS.iconst X276.here hx rfl (hb hby at_191) ?_
      refine XS.goto X276.here hx rfl (pc0 := 192) (pc' := 196) rfl (hb hby at_192) (by decide) (by decide) ?_
      exact retN X276 hx (t := .boolean) Bd.returns (by simp) (hb hby at_196) hr
     ·show Q0 Z p0 p1 p2 p3 tt ct cst fv h0 n0 _ T276.heap _
      rw [eh276]
      exact ⟨rfl, N276⟩
    ·skip
     have G279 : ∀ t, Steps p.tables e below (T273.setTop (mkF m 142 #[iv p0, iv p1, iv p2, iv p3, iv c0, iv c1, iv c2, rv b6, rv b30, iv 0, iv 1, iv 1, iv 0, iv 0, .unset, .unset] [(.int (0 : Int32))])) t → Steps p.tables e below (s₁.setTop (entryFrame m #[(.int p0), (.int p1), (.int p2), (.int p3)] maxLocals)) t := by
      intro t kt
      refine G274 _ ?_
      refine XS.ifNo X273.here hx rfl (hb hby at_137) rfl ((if0 _ _).trans (feq hc137_275).1) ?_
      refine XS.iload X273.here hx rfl (hb hby at_140) rfl ?_
      exact kt
     have G280 : ∀ t, Steps p.tables e below (T273.setTop (mkF m 155 #[iv p0, iv p1, iv p2, iv p3, iv c0, iv c1, iv c2, rv b6, rv b30, iv 0, iv 1, iv 1, iv 0, iv 0, .unset, .unset] [(.int (0 : Int32))])) t → Steps p.tables e below (s₁.setTop (entryFrame m #[(.int p0), (.int p1), (.int p2), (.int p3)] maxLocals)) t := by
      intro t kt
      refine G279 _ ?_
      refine XS.ifYes X273.here hx rfl (pc0 := 142) (pc' := 153) rfl (hb hby at_142) rfl ((if0 _ _).trans (teq (by decide)).1) (by decide) (by decide) ?_
      refine XS.iload X273.here hx rfl (hb hby at_153) rfl ?_
      exact kt
     obtain ⟨_, _, ⟨T281, L281, k281, n281⟩, -, X281, ⟨Lc281, hQ281, l281, y281, z281⟩, st281⟩ := Jvm.LawKit.callS X273 hx (y := (⟨"com/example/wary_bearer/warybearer/http/Http1Reader", "isToken", "(Ljava/lang/String;II)Z"⟩ : MethodName)) hown (mvT hZ (hw _ (List.mem_of_getElem? (i := 35) rfl))) (mvT hZ (hw _ (List.mem_of_getElem? (i := 36) rfl))) (mvT hZ (hw _ (List.mem_of_getElem? (i := 37) rfl))) (mvT hZ (hw _ (List.mem_of_getElem? (i := 38) rfl))) (by decide) (backOf (W := 0) (rmTokU01 l Z a0 hw [] b30 c0 c1 c2 ta37 kb37 tt ct cst fv T37.heap n0 z252 A37 Fc37 Fv37 V37 fa249 hb0 hb1 hb2 TS TA TS2 TV SS) hZ (hw _ (List.mem_of_getElem? (i := 38) rfl)) (hw _ (List.mem_of_getElem? (i := 37) rfl)) (by decide) (by decide)) (g := (mkF m 179 #[iv p0, iv p1, iv p2, iv p3, iv c0, iv c1, iv c2, rv b6, rv b30, iv 0, iv 1, iv 1, iv 0, iv 0, iv 1, .unset] [(.int (1 : Int32)), (.int (0 : Int32)), (.ref b30)])) rfl (by rw [hml]; rfl) (argsL := [(.ref b30), (.int (0 : Int32)), (.int (1 : Int32))]) (rest := []) (lenOf pd_15 rfl) rfl (by show 2 * 0 + _ ≤ _; exact Nat.le_of_eq rfl) (hb hby at_179) (fun _ _ => ⟨rfl, eh273, (by decide : 4 + 0 ≤ _), (by decide : 16 + 0 ≤ _)⟩)
     dsimp only [Pt.U, Pt.locs, Pt.cells, Pt.slots] at X281 l281 y281 z281 st281 hQ281
     subst l281 y281 z281
     obtain ⟨rfl, N281q, eh281⟩ := hQ281
     have N281 := Fr.app N273 N281q
     have G282 : ∀ t, Steps p.tables e below (T281.setTop (mkF m 188 #[iv p0, iv p1, iv p2, iv p3, iv c0, iv c1, iv c2, rv b6, rv b30, iv 0, iv 1, iv 1, iv 0, iv 0, iv 1, iv (own_tok [c0])] [(.int (1 : Int32)), (.int (own_tok [c0]))])) t → Steps p.tables e below (s₁.setTop (entryFrame m #[(.int p0), (.int p1), (.int p2), (.int p3)] maxLocals)) t := by
      intro t kt
      refine G280 _ ?_
      refine XS.ifYes X273.here hx rfl (pc0 := 155) (pc' := 166) rfl (hb hby at_155) rfl ((if0 _ _).trans (teq (by decide)).1) (by decide) (by decide) ?_
      refine XS.iconst X273.here hx rfl (hb hby at_166) ?_
      refine XS.goto X273.here hx rfl (pc0 := 167) (pc' := 171) rfl (hb hby at_167) (by decide) (by decide) ?_
      refine XS.istore X273.here hx rfl (hb hby at_171) rfl (l' := #[iv p0, iv p1, iv p2, iv p3, iv c0, iv c1, iv c2, rv b6, rv b30, iv 0, iv 1, iv 1, iv 0, iv 0, iv 1, .unset]) rfl ?_
      refine XS.aload X273.here hx rfl (hb hby at_173) rfl rfl ?_
      refine XS.iload X273.here hx rfl (hb hby at_175) rfl ?_
      refine XS.iload X273.here hx rfl (hb hby at_177) rfl ?_
      refine st281 _ ?_
      refine XS.istore X281.here hx rfl (hb hby at_182) rfl (l' := #[iv p0, iv p1, iv p2, iv p3, iv c0, iv c1, iv c2, rv b6, rv b30, iv 0, iv 1, iv 1, iv 0, iv 0, iv 1, iv (own_tok [c0])]) rfl ?_
      refine XS.iload X281.here hx rfl (hb hby at_184) rfl ?_
      refine XS.iload X281.here hx rfl (hb hby at_186) rfl ?_
      exact kt
     have hc188_283 : (own_tok [c0]) = (1 : Int32) := by rw [own_tok, if_neg hc137_275, own_tok]
     obtain ⟨fs, hr, hrun, hended, hW, hsame⟩ := X281.leave (v := some (.int (1 : Int32))) (fun h => by rw [Bd.returns] at h; cases h)
     refine ⟨_, _, G282 _ ?_, hrun, hended, _, _, rfl, ?_, ⟨_, rfl⟩, hW, hsame.mono (by decide) (by decide)⟩
     ·skip
      refine XS.icmpNo X281.here hx rfl (hb hby at_188) rfl (teq hc188_283).2 ?_
      refine XS.iconst X281.here hx rfl (hb hby at_191) ?_
      refine XS.goto X281.here hx rfl (pc0 := 192) (pc' := 196) rfl (hb hby at_192) (by decide) (by decide) ?_
      exact retN X281 hx (t := .boolean) Bd.returns (by simp) (hb hby at_196) hr
     ·show Q0 Z p0 p1 p2 p3 tt ct cst fv h0 n0 _ T281.heap _
      rw [eh281]
      exact ⟨rfl, N281⟩
   ·skip
    have G284 : ∀ t, Steps p.tables e below (T37.setTop (mkF m 66 #[iv p0, iv p1, iv p2, iv p3, iv c0, iv c1, iv c2, rv b6, rv b30, iv 0, iv 2, .unset, .unset, .unset, .unset, .unset] [(.int (0 : Int32))])) t → Steps p.tables e below (s₁.setTop (entryFrame m #[(.int p0), (.int p1), (.int p2), (.int p3)] maxLocals)) t := by
     intro t kt
     refine G255 _ ?_
     show Steps p.tables e below (T37.setTop (mkF m 64 #[iv p0, iv p1, iv p2, iv p3, iv c0, iv c1, iv c2, rv b6, rv b30, iv 0, iv 2, .unset, .unset, .unset, .unset, .unset] [])) _
     refine XS.iload X37.here hx rfl (hb hby at_64) rfl ?_
     exact kt
    have G285 : ∀ t, Steps p.tables e below (T37.setTop (mkF m 72 #[iv p0, iv p1, iv p2, iv p3, iv c0, iv c1, iv c2, rv b6, rv b30, iv 0, iv 2, .unset, .unset, .unset, .unset, .unset] [(.int (2 : Int32)), (.int (0 : Int32))])) t → Steps p.tables e below (s₁.setTop (entryFrame m #[(.int p0), (.int p1), (.int p2), (.int p3)] maxLocals)) t := by
     intro t kt
     refine G284 _ ?_
     refine XS.ifNo X37.here hx rfl (hb hby at_66) rfl ((if0 _ _).trans (flt (by decide)).2.2.1) ?_
     refine XS.iconst X37.here hx rfl (hb hby at_69) ?_
     refine XS.iload X37.here hx rfl (hb hby at_70) rfl ?_
     exact kt
    have G286 : ∀ t, Steps p.tables e below (T37.setTop (mkF m 85 #[iv p0, iv p1, iv p2, iv p3, iv c0, iv c1, iv c2, rv b6, rv b30, iv 0, iv 2, iv 1, .unset, .unset, .unset, .unset] [(.int (1 : Int32)), (.int (0 : Int32))])) t → Steps p.tables e below (s₁.setTop (entryFrame m #[(.int p0), (.int p1), (.int p2), (.int p3)] maxLocals)) t := by
     intro t kt
     refine G285 _ ?_
     refine XS.icmpNo X37.here hx rfl (hb hby at_72) rfl (tlt (by decide)).2.1 ?_
     refine XS.iconst X37.here hx rfl (hb hby at_75) ?_
     refine XS.goto X37.here hx rfl (pc0 := 76) (pc' := 80) rfl (hb hby at_76) (by decide) (by decide) ?_
     refine XS.istore X37.here hx rfl (hb hby at_80) rfl (l' := #[iv p0, iv p1, iv p2, iv p3, iv c0, iv c1, iv c2, rv b6, rv b30, iv 0, iv 2, iv 1, .unset, .unset, .unset, .unset]) rfl ?_
     refine XS.iload X37.here hx rfl (hb hby at_82) rfl ?_
     refine XS.iconst X37.here hx rfl (hb hby at_84) ?_
     exact kt
    have G287 : ∀ t, Steps p.tables e below (T37.setTop (mkF m 91 #[iv p0, iv p1, iv p2, iv p3, iv c0, iv c1, iv c2, rv b6, rv b30, iv 0, iv 2, iv 1, .unset, .unset, .unset, .unset] [(.int (2 : Int32)), (.int (1 : Int32))])) t → Steps p.tables e below (s₁.setTop (entryFrame m #[(.int p0), (.int p1), (.int p2), (.int p3)] maxLocals)) t := by
     intro t kt
     refine G286 _ ?_
     refine XS.icmpNo X37.here hx rfl (hb hby at_85) rfl (flt (by decide)).2.2.1 ?_
     refine XS.iconst X37.here hx rfl (hb hby at_88) ?_
     refine XS.iload X37.here hx rfl (hb hby at_89) rfl ?_
     exact kt
    have G288 : ∀ t, Steps p.tables e below (T37.setTop (mkF m 104 #[iv p0, iv p1, iv p2, iv p3, iv c0, iv c1, iv c2, rv b6, rv b30, iv 0, iv 2, iv 1, iv 1, .unset, .unset, .unset] [(.int (2 : Int32)), (.int (0 : Int32))])) t → Steps p.tables e below (s₁.setTop (entryFrame m #[(.int p0), (.int p1), (.int p2), (.int p3)] maxLocals)) t := by
     intro t kt
     refine G287 _ ?_
     refine XS.icmpNo X37.here hx rfl (hb hby at_91) rfl (tlt (by decide)).2.1 ?_
     refine XS.iconst X37.here hx rfl (hb hby at_94) ?_
     refine XS.goto X37.here hx rfl (pc0 := 95) (pc' := 99) rfl (hb hby at_95) (by decide) (by decide) ?_
     refine XS.istore X37.here hx rfl (hb hby at_99) rfl (l' := #[iv p0, iv p1, iv p2, iv p3, iv c0, iv c1, iv c2, rv b6, rv b30, iv 0, iv 2, iv 1, iv 1, .unset, .unset, .unset]) rfl ?_
     refine XS.iload X37.here hx rfl (hb hby at_101) rfl ?_
     refine XS.iconst X37.here hx rfl (hb hby at_103) ?_
     exact kt
    have G289 : ∀ t, Steps p.tables e below (T37.setTop (mkF m 110 #[iv p0, iv p1, iv p2, iv p3, iv c0, iv c1, iv c2, rv b6, rv b30, iv 0, iv 2, iv 1, iv 1, .unset, .unset, .unset] [(.int (2 : Int32)), (.int (2 : Int32))])) t → Steps p.tables e below (s₁.setTop (entryFrame m #[(.int p0), (.int p1), (.int p2), (.int p3)] maxLocals)) t := by
     intro t kt
     refine G288 _ ?_
     refine XS.icmpNo X37.here hx rfl (hb hby at_104) rfl (flt (by decide)).2.2.1 ?_
     refine XS.iconst X37.here hx rfl (hb hby at_107) ?_
     refine XS.iload X37.here hx rfl (hb hby at_108) rfl ?_
     exact kt
    have G290 : ∀ t, Steps p.tables e below (T37.setTop (mkF m 124 #[iv p0, iv p1, iv p2, iv p3, iv c0, iv c1, iv c2, rv b6, rv b30, iv 0, iv 2, iv 1, iv 1, iv 0, .unset, .unset] [(.int (2 : Int32)), (.int (0 : Int32))])) t → Steps p.tables e below (s₁.setTop (entryFrame m #[(.int p0), (.int p1), (.int p2), (.int p3)] maxLocals)) t := by
     intro t kt
     refine G289 _ ?_
     refine XS.icmpYes X37.here hx rfl (pc0 := 110) (pc' := 117) rfl (hb hby at_110) rfl (flt (by decide)).2.1 (by decide) (by decide) ?_
     refine XS.iconst X37.here hx rfl (hb hby at_117) ?_
     refine XS.istore X37.here hx rfl (hb hby at_118) rfl (l' := #[iv p0, iv p1, iv p2, iv p3, iv c0, iv c1, iv c2, rv b6, rv b30, iv 0, iv 2, iv 1, iv 1, iv 0, .unset, .unset]) rfl ?_
     refine XS.iload X37.here hx rfl (hb hby at_120) rfl ?_
     show Steps p.tables e below (T37.setTop (mkF m 122 #[iv p0, iv p1, iv p2, iv p3, iv c0, iv c1, iv c2, rv b6, rv b30, iv 0, iv 2, iv 1, iv 1, iv 0, .unset, .unset] [(.int (0 : Int32))])) _
     refine XS.iload X37.here hx rfl (hb hby at_122) rfl ?_
     exact kt
    have G291 : ∀ t, Steps p.tables e below (T37.setTop (mkF m 129 #[iv p0, iv p1, iv p2, iv p3, iv c0, iv c1, iv c2, rv b6, rv b30, iv 0, iv 2, iv 1, iv 1, iv 0, .unset, .unset] [(.int (1 : Int32))])) t → Steps p.tables e below (s₁.setTop (entryFrame m #[(.int p0), (.int p1), (.int p2), (.int p3)] maxLocals)) t := by
     intro t kt
     refine G290 _ ?_
     refine XS.icmpNo X37.here hx rfl (hb hby at_124) rfl (tlt (by decide)).2.1 ?_
     refine XS.iload X37.here hx rfl (hb hby at_127) rfl ?_
     exact kt
    obtain ⟨_, _, ⟨T292, L292, k292, n292⟩, -, X292, ⟨Lc292, hQ292, l292, y292, z292⟩, st292⟩ := Jvm.LawKit.callS X37 hx (y := (⟨"com/example/wary_bearer/warybearer/http/Http1ReaderIsTokenPinLaw", "isT", "(C)Z"⟩ : MethodName)) hown (mvT hZ (hw _ (List.mem_of_getElem? (i := 59) rfl))) (mvT hZ (hw _ (List.mem_of_getElem? (i := 60) rfl))) (mvT hZ (hw _ (List.mem_of_getElem? (i := 2) rfl))) (mvT hZ (hw _ (List.mem_of_getElem? (i := 61) rfl))) (by decide) (backOf (W := 0) (rm14 l Z a0 hw [] c0  T37.heap n0 z252 ) hZ (hw _ (List.mem_of_getElem? (i := 61) rfl)) (hw _ (List.mem_of_getElem? (i := 2) rfl)) (by decide) (by decide)) (g := (mkF m 134 #[iv p0, iv p1, iv p2, iv p3, iv c0, iv c1, iv c2, rv b6, rv b30, iv 0, iv 2, iv 1, iv 1, iv 0, .unset, .unset] [(.int c0)])) rfl (by rw [hml]; rfl) (argsL := [(.int c0)]) (rest := []) (lenOf pd_16 rfl) rfl (by show 2 * 0 + _ ≤ _; exact Nat.le_of_eq rfl) (hb hby at_134) (fun _ _ => ⟨rfl, rfl, (by decide : 4 + 0 ≤ _), (by decide : 16 + 0 ≤ _)⟩)
    dsimp only [Pt.U, Pt.locs, Pt.cells, Pt.slots] at X292 l292 y292 z292 st292 hQ292
    subst l292 y292 z292
    obtain ⟨rfl, N292q, eh292⟩ := hQ292
    have N292 := Fr.app N37 N292q
    have G293 : ∀ t, Steps p.tables e below (T292.setTop (mkF m 137 #[iv p0, iv p1, iv p2, iv p3, iv c0, iv c1, iv c2, rv b6, rv b30, iv 0, iv 2, iv 1, iv 1, iv 0, .unset, .unset] [(.int (fisT c0))])) t → Steps p.tables e below (s₁.setTop (entryFrame m #[(.int p0), (.int p1), (.int p2), (.int p3)] maxLocals)) t := by
     intro t kt
     refine G291 _ ?_
     refine XS.ifNo X37.here hx rfl (hb hby at_129) rfl ((if0 _ _).trans (feq (by decide)).1) ?_
     refine XS.iload X37.here hx rfl (hb hby at_132) rfl ?_
     refine st292 _ ?_
     exact kt
    by_cases hc137_294 : (fisT c0) = (0 : Int32)
    ·skip
     obtain ⟨_, _, ⟨T295, L295, k295, n295⟩, -, X295, ⟨Lc295, hQ295, l295, y295, z295⟩, st295⟩ := Jvm.LawKit.callS X292 hx (y := (⟨"com/example/wary_bearer/warybearer/http/Http1Reader", "isToken", "(Ljava/lang/String;II)Z"⟩ : MethodName)) hown (mvT hZ (hw _ (List.mem_of_getElem? (i := 35) rfl))) (mvT hZ (hw _ (List.mem_of_getElem? (i := 36) rfl))) (mvT hZ (hw _ (List.mem_of_getElem? (i := 37) rfl))) (mvT hZ (hw _ (List.mem_of_getElem? (i := 38) rfl))) (by decide) (backOf (W := 0) (rmTokU02 l Z a0 hw [] b30 c0 c1 c2 ta37 kb37 tt ct cst fv T37.heap n0 z252 A37 Fc37 Fv37 V37 fa249 hb0 hb1 hb2 TS TA TS2 TV SS) hZ (hw _ (List.mem_of_getElem? (i := 38) rfl)) (hw _ (List.mem_of_getElem? (i := 37) rfl)) (by decide) (by decide)) (g := (mkF m 179 #[iv p0, iv p1, iv p2, iv p3, iv c0, iv c1, iv c2, rv b6, rv b30, iv 0, iv 2, iv 1, iv 1, iv 0, iv 0, .unset] [(.int (2 : Int32)), (.int (0 : Int32)), (.ref b30)])) rfl (by rw [hml]; rfl) (argsL := [(.ref b30), (.int (0 : Int32)), (.int (2 : Int32))]) (rest := []) (lenOf pd_15 rfl) rfl (by show 2 * 0 + _ ≤ _; exact Nat.le_of_eq rfl) (hb hby at_179) (fun _ _ => ⟨rfl, eh292, (by decide : 4 + 0 ≤ _), (by decide : 16 + 0 ≤ _)⟩)
     dsimp only [Pt.U, Pt.locs, Pt.cells, Pt.slots] at X295 l295 y295 z295 st295 hQ295
     subst l295 y295 z295
     obtain ⟨rfl, N295q, eh295⟩ := hQ295
     have N295 := Fr.app N292 N295q
     have G296 : ∀ t, Steps p.tables e below (T295.setTop (mkF m 188 #[iv p0, iv p1, iv p2, iv p3, iv c0, iv c1, iv c2, rv b6, rv b30, iv 0, iv 2, iv 1, iv 1, iv 0, iv 0, iv (own_tok [c0, c1])] [(.int (0 : Int32)), (.int (own_tok [c0, c1]))])) t → Steps p.tables e below (s₁.setTop (entryFrame m #[(.int p0), (.int p1), (.int p2), (.int p3)] maxLocals)) t := by
      intro t kt
      refine G293 _ ?_
      refine XS.ifYes X292.here hx rfl (pc0 := 137) (pc' := 170) rfl (hb hby at_137) rfl ((if0 _ _).trans (teq hc137_294).1) (by decide) (by decide) ?_
      refine XS.iconst X292.here hx rfl (hb hby at_170) ?_
      refine XS.istore X292.here hx rfl (hb hby at_171) rfl (l' := #[iv p0, iv p1, iv p2, iv p3, iv c0, iv c1, iv c2, rv b6, rv b30, iv 0, iv 2, iv 1, iv 1, iv 0, iv 0, .unset]) rfl ?_
      refine XS.aload X292.here hx rfl (hb hby at_173) rfl rfl ?_
      refine XS.iload X292.here hx rfl (hb hby at_175) rfl ?_
      refine XS.iload X292.here hx rfl (hb hby at_177) rfl ?_
      refine st295 _ ?_
      refine XS.istore X295.here hx rfl (hb hby at_182) rfl (l' := #[iv p0, iv p1, iv p2, iv p3, iv c0, iv c1, iv c2, rv b6, rv b30, iv 0, iv 2, iv 1, iv 1, iv 0, iv 0, iv (own_tok [c0, c1])]) rfl ?_
      refine XS.iload X295.here hx rfl (hb hby at_184) rfl ?_
      refine XS.iload X295.here hx rfl (hb hby at_186) rfl ?_
      exact kt
     have hc188_297 : (own_tok [c0, c1]) = (0 : Int32) := by rw [own_tok, if_pos hc137_294]
     obtain ⟨fs, hr, hrun, hended, hW, hsame⟩ := X295.leave (v := some (.int (1 : Int32))) (fun h => by rw [Bd.returns] at h; cases h)
     refine ⟨_, _, G296 _ ?_, hrun, hended, _, _, rfl, ?_, ⟨_, rfl⟩, hW, hsame.mono (by decide) (by decide)⟩
     ·skip
      refine XS.icmpNo X295.here hx rfl (hb hby at_188) rfl (teq hc188_297).2 ?_
      refine XS.iconst X295.here hx rfl (hb hby at_191) ?_
      refine XS.goto X295.here hx rfl (pc0 := 192) (pc' := 196) rfl (hb hby at_192) (by decide) (by decide) ?_
      exact retN X295 hx (t := .boolean) Bd.returns (by simp) (hb hby at_196) hr
     ·show Q0 Z p0 p1 p2 p3 tt ct cst fv h0 n0 _ T295.heap _
      rw [eh295]
      exact ⟨rfl, N295⟩
    ·skip
     have G298 : ∀ t, Steps p.tables e below (T292.setTop (mkF m 142 #[iv p0, iv p1, iv p2, iv p3, iv c0, iv c1, iv c2, rv b6, rv b30, iv 0, iv 2, iv 1, iv 1, iv 0, .unset, .unset] [(.int (1 : Int32))])) t → Steps p.tables e below (s₁.setTop (entryFrame m #[(.int p0), (.int p1), (.int p2), (.int p3)] maxLocals)) t := by
      intro t kt
      refine G293 _ ?_
      refine XS.ifNo X292.here hx rfl (hb hby at_137) rfl ((if0 _ _).trans (feq hc137_294).1) ?_
      refine XS.iload X292.here hx rfl (hb hby at_140) rfl ?_
      exact kt
     obtain ⟨_, _, ⟨T299, L299, k299, n299⟩, -, X299, ⟨Lc299, hQ299, l299, y299, z299⟩, st299⟩ := Jvm.LawKit.callS X292 hx (y := (⟨"com/example/wary_bearer/warybearer/http/Http1ReaderIsTokenPinLaw", "isT", "(C)Z"⟩ : MethodName)) hown (mvT hZ (hw _ (List.mem_of_getElem? (i := 59) rfl))) (mvT hZ (hw _ (List.mem_of_getElem? (i := 60) rfl))) (mvT hZ (hw _ (List.mem_of_getElem? (i := 2) rfl))) (mvT hZ (hw _ (List.mem_of_getElem? (i := 61) rfl))) (by decide) (backOf (W := 0) (rm14 l Z a0 hw [] c1  T37.heap n0 z252 ) hZ (hw _ (List.mem_of_getElem? (i := 61) rfl)) (hw _ (List.mem_of_getElem? (i := 2) rfl)) (by decide) (by decide)) (g := (mkF m 147 #[iv p0, iv p1, iv p2, iv p3, iv c0, iv c1, iv c2, rv b6, rv b30, iv 0, iv 2, iv 1, iv 1, iv 0, .unset, .unset] [(.int c1)])) rfl (by rw [hml]; rfl) (argsL := [(.int c1)]) (rest := []) (lenOf pd_16 rfl) rfl (by show 2 * 0 + _ ≤ _; exact Nat.le_of_eq rfl) (hb hby at_147) (fun _ _ => ⟨rfl, eh292, (by decide : 4 + 0 ≤ _), (by decide : 16 + 0 ≤ _)⟩)
     dsimp only [Pt.U, Pt.locs, Pt.cells, Pt.slots] at X299 l299 y299 z299 st299 hQ299
     subst l299 y299 z299
     obtain ⟨rfl, N299q, eh299⟩ := hQ299
     have N299 := Fr.app N292 N299q
     have G300 : ∀ t, Steps p.tables e below (T299.setTop (mkF m 150 #[iv p0, iv p1, iv p2, iv p3, iv c0, iv c1, iv c2, rv b6, rv b30, iv 0, iv 2, iv 1, iv 1, iv 0, .unset, .unset] [(.int (fisT c1))])) t → Steps p.tables e below (s₁.setTop (entryFrame m #[(.int p0), (.int p1), (.int p2), (.int p3)] maxLocals)) t := by
      intro t kt
      refine G298 _ ?_
      refine XS.ifNo X292.here hx rfl (hb hby at_142) rfl ((if0 _ _).trans (feq (by decide)).1) ?_
      refine XS.iload X292.here hx rfl (hb hby at_145) rfl ?_
      refine st299 _ ?_
      exact kt
     by_cases hc150_301 : (fisT c1) = (0 : Int32)
     ·skip
      obtain ⟨_, _, ⟨T302, L302, k302, n302⟩, -, X302, ⟨Lc302, hQ302, l302, y302, z302⟩, st302⟩ := Jvm.LawKit.callS X299 hx (y := (⟨"com/example/wary_bearer/warybearer/http/Http1Reader", "isToken", "(Ljava/lang/String;II)Z"⟩ : MethodName)) hown (mvT hZ (hw _ (List.mem_of_getElem? (i := 35) rfl))) (mvT hZ (hw _ (List.mem_of_getElem? (i := 36) rfl))) (mvT hZ (hw _ (List.mem_of_getElem? (i := 37) rfl))) (mvT hZ (hw _ (List.mem_of_getElem? (i := 38) rfl))) (by decide) (backOf (W := 0) (rmTokU02 l Z a0 hw [] b30 c0 c1 c2 ta37 kb37 tt ct cst fv T37.heap n0 z252 A37 Fc37 Fv37 V37 fa249 hb0 hb1 hb2 TS TA TS2 TV SS) hZ (hw _ (List.mem_of_getElem? (i := 38) rfl)) (hw _ (List.mem_of_getElem? (i := 37) rfl)) (by decide) (by decide)) (g := (mkF m 179 #[iv p0, iv p1, iv p2, iv p3, iv c0, iv c1, iv c2, rv b6, rv b30, iv 0, iv 2, iv 1, iv 1, iv 0, iv 0, .unset] [(.int (2 : Int32)), (.int (0 : Int32)), (.ref b30)])) rfl (by rw [hml]; rfl) (argsL := [(.ref b30), (.int (0 : Int32)), (.int (2 : Int32))]) (rest := []) (lenOf pd_15 rfl) rfl (by show 2 * 0 + _ ≤ _; exact Nat.le_of_eq rfl) (hb hby at_179) (fun _ _ => ⟨rfl, eh299, (by decide : 4 + 0 ≤ _), (by decide : 16 + 0 ≤ _)⟩)
      dsimp only [Pt.U, Pt.locs, Pt.cells, Pt.slots] at X302 l302 y302 z302 st302 hQ302
      subst l302 y302 z302
      obtain ⟨rfl, N302q, eh302⟩ := hQ302
      have N302 := Fr.app N299 N302q
      have G303 : ∀ t, Steps p.tables e below (T302.setTop (mkF m 188 #[iv p0, iv p1, iv p2, iv p3, iv c0, iv c1, iv c2, rv b6, rv b30, iv 0, iv 2, iv 1, iv 1, iv 0, iv 0, iv (own_tok [c0, c1])] [(.int (0 : Int32)), (.int (own_tok [c0, c1]))])) t → Steps p.tables e below (s₁.setTop (entryFrame m #[(.int p0), (.int p1), (.int p2), (.int p3)] maxLocals)) t := by
       intro t kt
       refine G300 _ ?_
       refine XS.ifYes X299.here hx rfl (pc0 := 150) (pc' := 170) rfl (hb hby at_150) rfl ((if0 _ _).trans (teq hc150_301).1) (by decide) (by decide) ?_
       refine XS.iconst X299.here hx rfl (hb hby at_170) ?_
       refine XS.istore X299.here hx rfl (hb hby at_171) rfl (l' := #[iv p0, iv p1, iv p2, iv p3, iv c0, iv c1, iv c2, rv b6, rv b30, iv 0, iv 2, iv 1, iv 1, iv 0, iv 0, .unset]) rfl ?_
       refine XS.aload X299.here hx rfl (hb hby at_173) rfl rfl ?_
       refine XS.iload X299.here hx rfl (hb hby at_175) rfl ?_
       refine XS.iload X299.here hx rfl (hb hby at_177) rfl ?_
       refine st302 _ ?_
       refine XS.istore X302.here hx rfl (hb hby at_182) rfl (l' := #[iv p0, iv p1, iv p2, iv p3, iv c0, iv c1, iv c2, rv b6, rv b30, iv 0, iv 2, iv 1, iv 1, iv 0, iv 0, iv (own_tok [c0, c1])]) rfl ?_
       refine XS.iload X302.here hx rfl (hb hby at_184) rfl ?_
       refine XS.iload X302.here hx rfl (hb hby at_186) rfl ?_
       exact kt
      have hc188_304 : (own_tok [c0, c1]) = (0 : Int32) := by rw [own_tok, if_neg hc137_294, own_tok, if_pos hc150_301]
      obtain ⟨fs, hr, hrun, hended, hW, hsame⟩ := X302.leave (v := some (.int (1 : Int32))) (fun h => by rw [Bd.returns] at h; cases h)
      refine ⟨_, _, G303 _ ?_, hrun, hended, _, _, rfl, ?_, ⟨_, rfl⟩, hW, hsame.mono (by decide) (by decide)⟩
      ·skip
       refine XS.icmpNo X302.here hx rfl (hb hby at_188) rfl (teq hc188_304).2 ?_
       refine XS.iconst X302.here hx rfl (hb hby at_191) ?_
       refine XS.goto X302.here hx rfl (pc0 := 192) (pc' := 196) rfl (hb hby at_192) (by decide) (by decide) ?_
       exact retN X302 hx (t := .boolean) Bd.returns (by simp) (hb hby at_196) hr
      ·show Q0 Z p0 p1 p2 p3 tt ct cst fv h0 n0 _ T302.heap _
       rw [eh302]
       exact ⟨rfl, N302⟩
     ·skip
      have G305 : ∀ t, Steps p.tables e below (T299.setTop (mkF m 155 #[iv p0, iv p1, iv p2, iv p3, iv c0, iv c1, iv c2, rv b6, rv b30, iv 0, iv 2, iv 1, iv 1, iv 0, .unset, .unset] [(.int (0 : Int32))])) t → Steps p.tables e below (s₁.setTop (entryFrame m #[(.int p0), (.int p1), (.int p2), (.int p3)] maxLocals)) t := by
       intro t kt
       refine G300 _ ?_
       refine XS.ifNo X299.here hx rfl (hb hby at_150) rfl ((if0 _ _).trans (feq hc150_301).1) ?_
       refine XS.iload X299.here hx rfl (hb hby at_153) rfl ?_
       exact kt
      obtain ⟨_, _, ⟨T306, L306, k306, n306⟩, -, X306, ⟨Lc306, hQ306, l306, y306, z306⟩, st306⟩ := Jvm.LawKit.callS X299 hx (y := (⟨"com/example/wary_bearer/warybearer/http/Http1Reader", "isToken", "(Ljava/lang/String;II)Z"⟩ : MethodName)) hown (mvT hZ (hw _ (List.mem_of_getElem? (i := 35) rfl))) (mvT hZ (hw _ (List.mem_of_getElem? (i := 36) rfl))) (mvT hZ (hw _ (List.mem_of_getElem? (i := 37) rfl))) (mvT hZ (hw _ (List.mem_of_getElem? (i := 38) rfl))) (by decide) (backOf (W := 0) (rmTokU02 l Z a0 hw [] b30 c0 c1 c2 ta37 kb37 tt ct cst fv T37.heap n0 z252 A37 Fc37 Fv37 V37 fa249 hb0 hb1 hb2 TS TA TS2 TV SS) hZ (hw _ (List.mem_of_getElem? (i := 38) rfl)) (hw _ (List.mem_of_getElem? (i := 37) rfl)) (by decide) (by decide)) (g := (mkF m 179 #[iv p0, iv p1, iv p2, iv p3, iv c0, iv c1, iv c2, rv b6, rv b30, iv 0, iv 2, iv 1, iv 1, iv 0, iv 1, .unset] [(.int (2 : Int32)), (.int (0 : Int32)), (.ref b30)])) rfl (by rw [hml]; rfl) (argsL := [(.ref b30), (.int (0 : Int32)), (.int (2 : Int32))]) (rest := []) (lenOf pd_15 rfl) rfl (by show 2 * 0 + _ ≤ _; exact Nat.le_of_eq rfl) (hb hby at_179) (fun _ _ => ⟨rfl, eh299, (by decide : 4 + 0 ≤ _), (by decide : 16 + 0 ≤ _)⟩)
      dsimp only [Pt.U, Pt.locs, Pt.cells, Pt.slots] at X306 l306 y306 z306 st306 hQ306
      subst l306 y306 z306
      obtain ⟨rfl, N306q, eh306⟩ := hQ306
      have N306 := Fr.app N299 N306q
      have G307 : ∀ t, Steps p.tables e below (T306.setTop (mkF m 188 #[iv p0, iv p1, iv p2, iv p3, iv c0, iv c1, iv c2, rv b6, rv b30, iv 0, iv 2, iv 1, iv 1, iv 0, iv 1, iv (own_tok [c0, c1])] [(.int (1 : Int32)), (.int (own_tok [c0, c1]))])) t → Steps p.tables e below (s₁.setTop (entryFrame m #[(.int p0), (.int p1), (.int p2), (.int p3)] maxLocals)) t := by
       intro t kt
       refine G305 _ ?_
       refine XS.ifYes X299.here hx rfl (pc0 := 155) (pc' := 166) rfl (hb hby at_155) rfl ((if0 _ _).trans (teq (by decide)).1) (by decide) (by decide) ?_
       refine XS.iconst X299.here hx rfl (hb hby at_166) ?_
       refine XS.goto X299.here hx rfl (pc0 := 167) (pc' := 171) rfl (hb hby at_167) (by decide) (by decide) ?_
       refine XS.istore X299.here hx rfl (hb hby at_171) rfl (l' := #[iv p0, iv p1, iv p2, iv p3, iv c0, iv c1, iv c2, rv b6, rv b30, iv 0, iv 2, iv 1, iv 1, iv 0, iv 1, .unset]) rfl ?_
       refine XS.aload X299.here hx rfl (hb hby at_173) rfl rfl ?_
       refine XS.iload X299.here hx rfl (hb hby at_175) rfl ?_
       refine XS.iload X299.here hx rfl (hb hby at_177) rfl ?_
       refine st306 _ ?_
       refine XS.istore X306.here hx rfl (hb hby at_182) rfl (l' := #[iv p0, iv p1, iv p2, iv p3, iv c0, iv c1, iv c2, rv b6, rv b30, iv 0, iv 2, iv 1, iv 1, iv 0, iv 1, iv (own_tok [c0, c1])]) rfl ?_
       refine XS.iload X306.here hx rfl (hb hby at_184) rfl ?_
       refine XS.iload X306.here hx rfl (hb hby at_186) rfl ?_
       exact kt
      have hc188_308 : (own_tok [c0, c1]) = (1 : Int32) := by rw [own_tok, if_neg hc137_294, own_tok, if_neg hc150_301, own_tok]
      obtain ⟨fs, hr, hrun, hended, hW, hsame⟩ := X306.leave (v := some (.int (1 : Int32))) (fun h => by rw [Bd.returns] at h; cases h)
      refine ⟨_, _, G307 _ ?_, hrun, hended, _, _, rfl, ?_, ⟨_, rfl⟩, hW, hsame.mono (by decide) (by decide)⟩
      ·skip
       refine XS.icmpNo X306.here hx rfl (hb hby at_188) rfl (teq hc188_308).2 ?_
       refine XS.iconst X306.here hx rfl (hb hby at_191) ?_
       refine XS.goto X306.here hx rfl (pc0 := 192) (pc' := 196) rfl (hb hby at_192) (by decide) (by decide) ?_
       show Steps p.tables e below (T306.setTop (mkF m 196 #[iv p0, iv p1, iv p2, iv p3, iv c0, iv c1, iv c2, rv b6, rv b30, iv 0, iv 2, iv 1, iv 1, iv 0, iv 1, iv (own_tok [c0, c1])] [(.int (1 : Int32))])) _
       exact retN X306 hx (t := .boolean) Bd.returns (by simp) (hb hby at_196) hr
      ·show Q0 Z p0 p1 p2 p3 tt ct cst fv h0 n0 _ T306.heap _
       rw [eh306]
       exact ⟨rfl, N306⟩
   ·skip
    have G309 : ∀ t, Steps p.tables e below (T37.setTop (mkF m 66 #[iv p0, iv p1, iv p2, iv p3, iv c0, iv c1, iv c2, rv b6, rv b30, iv 0, iv 3, .unset, .unset, .unset, .unset, .unset] [(.int (0 : Int32))])) t → Steps p.tables e below (s₁.setTop (entryFrame m #[(.int p0), (.int p1), (.int p2), (.int p3)] maxLocals)) t := by
     intro t kt
     refine G255 _ ?_
     show Steps p.tables e below (T37.setTop (mkF m 64 #[iv p0, iv p1, iv p2, iv p3, iv c0, iv c1, iv c2, rv b6, rv b30, iv 0, iv 3, .unset, .unset, .unset, .unset, .unset] [])) _
     refine XS.iload X37.here hx rfl (hb hby at_64) rfl ?_
     exact kt
    have G310 : ∀ t, Steps p.tables e below (T37.setTop (mkF m 72 #[iv p0, iv p1, iv p2, iv p3, iv c0, iv c1, iv c2, rv b6, rv b30, iv 0, iv 3, .unset, .unset, .unset, .unset, .unset] [(.int (3 : Int32)), (.int (0 : Int32))])) t → Steps p.tables e below (s₁.setTop (entryFrame m #[(.int p0), (.int p1), (.int p2), (.int p3)] maxLocals)) t := by
     intro t kt
     refine G309 _ ?_
     refine XS.ifNo X37.here hx rfl (hb hby at_66) rfl ((if0 _ _).trans (flt (by decide)).2.2.1) ?_
     refine XS.iconst X37.here hx rfl (hb hby at_69) ?_
     refine XS.iload X37.here hx rfl (hb hby at_70) rfl ?_
     exact kt
    have G311 : ∀ t, Steps p.tables e below (T37.setTop (mkF m 85 #[iv p0, iv p1, iv p2, iv p3, iv c0, iv c1, iv c2, rv b6, rv b30, iv 0, iv 3, iv 1, .unset, .unset, .unset, .unset] [(.int (1 : Int32)), (.int (0 : Int32))])) t → Steps p.tables e below (s₁.setTop (entryFrame m #[(.int p0), (.int p1), (.int p2), (.int p3)] maxLocals)) t := by
     intro t kt
     refine G310 _ ?_
     refine XS.icmpNo X37.here hx rfl (hb hby at_72) rfl (tlt (by decide)).2.1 ?_
     refine XS.iconst X37.here hx rfl (hb hby at_75) ?_
     refine XS.goto X37.here hx rfl (pc0 := 76) (pc' := 80) rfl (hb hby at_76) (by decide) (by decide) ?_
     refine XS.istore X37.here hx rfl (hb hby at_80) rfl (l' := #[iv p0, iv p1, iv p2, iv p3, iv c0, iv c1, iv c2, rv b6, rv b30, iv 0, iv 3, iv 1, .unset, .unset, .unset, .unset]) rfl ?_
     refine XS.iload X37.here hx rfl (hb hby at_82) rfl ?_
     refine XS.iconst X37.here hx rfl (hb hby at_84) ?_
     exact kt
    have G312 : ∀ t, Steps p.tables e below (T37.setTop (mkF m 91 #[iv p0, iv p1, iv p2, iv p3, iv c0, iv c1, iv c2, rv b6, rv b30, iv 0, iv 3, iv 1, .unset, .unset, .unset, .unset] [(.int (3 : Int32)), (.int (1 : Int32))])) t → Steps p.tables e below (s₁.setTop (entryFrame m #[(.int p0), (.int p1), (.int p2), (.int p3)] maxLocals)) t := by
     intro t kt
     refine G311 _ ?_
     refine XS.icmpNo X37.here hx rfl (hb hby at_85) rfl (flt (by decide)).2.2.1 ?_
     refine XS.iconst X37.here hx rfl (hb hby at_88) ?_
     refine XS.iload X37.here hx rfl (hb hby at_89) rfl ?_
     exact kt
    have G313 : ∀ t, Steps p.tables e below (T37.setTop (mkF m 104 #[iv p0, iv p1, iv p2, iv p3, iv c0, iv c1, iv c2, rv b6, rv b30, iv 0, iv 3, iv 1, iv 1, .unset, .unset, .unset] [(.int (2 : Int32)), (.int (0 : Int32))])) t → Steps p.tables e below (s₁.setTop (entryFrame m #[(.int p0), (.int p1), (.int p2), (.int p3)] maxLocals)) t := by
     intro t kt
     refine G312 _ ?_
     refine XS.icmpNo X37.here hx rfl (hb hby at_91) rfl (tlt (by decide)).2.1 ?_
     refine XS.iconst X37.here hx rfl (hb hby at_94) ?_
     refine XS.goto X37.here hx rfl (pc0 := 95) (pc' := 99) rfl (hb hby at_95) (by decide) (by decide) ?_
     refine XS.istore X37.here hx rfl (hb hby at_99) rfl (l' := #[iv p0, iv p1, iv p2, iv p3, iv c0, iv c1, iv c2, rv b6, rv b30, iv 0, iv 3, iv 1, iv 1, .unset, .unset, .unset]) rfl ?_
     refine XS.iload X37.here hx rfl (hb hby at_101) rfl ?_
     refine XS.iconst X37.here hx rfl (hb hby at_103) ?_
     exact kt
    have G314 : ∀ t, Steps p.tables e below (T37.setTop (mkF m 110 #[iv p0, iv p1, iv p2, iv p3, iv c0, iv c1, iv c2, rv b6, rv b30, iv 0, iv 3, iv 1, iv 1, .unset, .unset, .unset] [(.int (3 : Int32)), (.int (2 : Int32))])) t → Steps p.tables e below (s₁.setTop (entryFrame m #[(.int p0), (.int p1), (.int p2), (.int p3)] maxLocals)) t := by
     intro t kt
     refine G313 _ ?_
     refine XS.icmpNo X37.here hx rfl (hb hby at_104) rfl (flt (by decide)).2.2.1 ?_
     refine XS.iconst X37.here hx rfl (hb hby at_107) ?_
     refine XS.iload X37.here hx rfl (hb hby at_108) rfl ?_
     exact kt
    have G315 : ∀ t, Steps p.tables e below (T37.setTop (mkF m 124 #[iv p0, iv p1, iv p2, iv p3, iv c0, iv c1, iv c2, rv b6, rv b30, iv 0, iv 3, iv 1, iv 1, iv 1, .unset, .unset] [(.int (3 : Int32)), (.int (0 : Int32))])) t → Steps p.tables e below (s₁.setTop (entryFrame m #[(.int p0), (.int p1), (.int p2), (.int p3)] maxLocals)) t := by
     intro t kt
     refine G314 _ ?_
     refine XS.icmpNo X37.here hx rfl (hb hby at_110) rfl (tlt (by decide)).2.1 ?_
     refine XS.iconst X37.here hx rfl (hb hby at_113) ?_
     refine XS.goto X37.here hx rfl (pc0 := 114) (pc' := 118) rfl (hb hby at_114) (by decide) (by decide) ?_
     refine XS.istore X37.here hx rfl (hb hby at_118) rfl (l' := #[iv p0, iv p1, iv p2, iv p3, iv c0, iv c1, iv c2, rv b6, rv b30, iv 0, iv 3, iv 1, iv 1, iv 1, .unset, .unset]) rfl ?_
     show Steps p.tables e below (T37.setTop (mkF m 120 #[iv p0, iv p1, iv p2, iv p3, iv c0, iv c1, iv c2, rv b6, rv b30, iv 0, iv 3, iv 1, iv 1, iv 1, .unset, .unset] [])) _
     refine XS.iload X37.here hx rfl (hb hby at_120) rfl ?_
     refine XS.iload X37.here hx rfl (hb hby at_122) rfl ?_
     exact kt
    have G316 : ∀ t, Steps p.tables e below (T37.setTop (mkF m 129 #[iv p0, iv p1, iv p2, iv p3, iv c0, iv c1, iv c2, rv b6, rv b30, iv 0, iv 3, iv 1, iv 1, iv 1, .unset, .unset] [(.int (1 : Int32))])) t → Steps p.tables e below (s₁.setTop (entryFrame m #[(.int p0), (.int p1), (.int p2), (.int p3)] maxLocals)) t := by
     intro t kt
     refine G315 _ ?_
     refine XS.icmpNo X37.here hx rfl (hb hby at_124) rfl (tlt (by decide)).2.1 ?_
     refine XS.iload X37.here hx rfl (hb hby at_127) rfl ?_
     exact kt
    obtain ⟨_, _, ⟨T317, L317, k317, n317⟩, -, X317, ⟨Lc317, hQ317, l317, y317, z317⟩, st317⟩ := Jvm.LawKit.callS X37 hx (y := (⟨"com/example/wary_bearer/warybearer/http/Http1ReaderIsTokenPinLaw", "isT", "(C)Z"⟩ : MethodName)) hown (mvT hZ (hw _ (List.mem_of_getElem? (i := 59) rfl))) (mvT hZ (hw _ (List.mem_of_getElem? (i := 60) rfl))) (mvT hZ (hw _ (List.mem_of_getElem? (i := 2) rfl))) (mvT hZ (hw _ (List.mem_of_getElem? (i := 61) rfl))) (by decide) (backOf (W := 0) (rm14 l Z a0 hw [] c0  T37.heap n0 z252 ) hZ (hw _ (List.mem_of_getElem? (i := 61) rfl)) (hw _ (List.mem_of_getElem? (i := 2) rfl)) (by decide) (by decide)) (g := (mkF m 134 #[iv p0, iv p1, iv p2, iv p3, iv c0, iv c1, iv c2, rv b6, rv b30, iv 0, iv 3, iv 1, iv 1, iv 1, .unset, .unset] [(.int c0)])) rfl (by rw [hml]; rfl) (argsL := [(.int c0)]) (rest := []) (lenOf pd_16 rfl) rfl (by show 2 * 0 + _ ≤ _; exact Nat.le_of_eq rfl) (hb hby at_134) (fun _ _ => ⟨rfl, rfl, (by decide : 4 + 0 ≤ _), (by decide : 16 + 0 ≤ _)⟩)
    dsimp only [Pt.U, Pt.locs, Pt.cells, Pt.slots] at X317 l317 y317 z317 st317 hQ317
    subst l317 y317 z317
    obtain ⟨rfl, N317q, eh317⟩ := hQ317
    have N317 := Fr.app N37 N317q
    have G318 : ∀ t, Steps p.tables e below (T317.setTop (mkF m 137 #[iv p0, iv p1, iv p2, iv p3, iv c0, iv c1, iv c2, rv b6, rv b30, iv 0, iv 3, iv 1, iv 1, iv 1, .unset, .unset] [(.int (fisT c0))])) t → Steps p.tables e below (s₁.setTop (entryFrame m #[(.int p0), (.int p1), (.int p2), (.int p3)] maxLocals)) t := by
     intro t kt
     refine G316 _ ?_
     refine XS.ifNo X37.here hx rfl (hb hby at_129) rfl ((if0 _ _).trans (feq (by decide)).1) ?_
     refine XS.iload X37.here hx rfl (hb hby at_132) rfl ?_
     refine st317 _ ?_
     exact kt
    by_cases hc137_319 : (fisT c0) = (0 : Int32)
    ·skip
     obtain ⟨_, _, ⟨T320, L320, k320, n320⟩, -, X320, ⟨Lc320, hQ320, l320, y320, z320⟩, st320⟩ := Jvm.LawKit.callS X317 hx (y := (⟨"com/example/wary_bearer/warybearer/http/Http1Reader", "isToken", "(Ljava/lang/String;II)Z"⟩ : MethodName)) hown (mvT hZ (hw _ (List.mem_of_getElem? (i := 35) rfl))) (mvT hZ (hw _ (List.mem_of_getElem? (i := 36) rfl))) (mvT hZ (hw _ (List.mem_of_getElem? (i := 37) rfl))) (mvT hZ (hw _ (List.mem_of_getElem? (i := 38) rfl))) (by decide) (backOf (W := 0) (rmTokU03 l Z a0 hw [] b30 c0 c1 c2 ta37 kb37 tt ct cst fv T37.heap n0 z252 A37 Fc37 Fv37 V37 fa249 hb0 hb1 hb2 TS TA TS2 TV SS) hZ (hw _ (List.mem_of_getElem? (i := 38) rfl)) (hw _ (List.mem_of_getElem? (i := 37) rfl)) (by decide) (by decide)) (g := (mkF m 179 #[iv p0, iv p1, iv p2, iv p3, iv c0, iv c1, iv c2, rv b6, rv b30, iv 0, iv 3, iv 1, iv 1, iv 1, iv 0, .unset] [(.int (3 : Int32)), (.int (0 : Int32)), (.ref b30)])) rfl (by rw [hml]; rfl) (argsL := [(.ref b30), (.int (0 : Int32)), (.int (3 : Int32))]) (rest := []) (lenOf pd_15 rfl) rfl (by show 2 * 0 + _ ≤ _; exact Nat.le_of_eq rfl) (hb hby at_179) (fun _ _ => ⟨rfl, eh317, (by decide : 4 + 0 ≤ _), (by decide : 16 + 0 ≤ _)⟩)
     dsimp only [Pt.U, Pt.locs, Pt.cells, Pt.slots] at X320 l320 y320 z320 st320 hQ320
     subst l320 y320 z320
     obtain ⟨rfl, N320q, eh320⟩ := hQ320
     have N320 := Fr.app N317 N320q
     have G321 : ∀ t, Steps p.tables e below (T320.setTop (mkF m 188 #[iv p0, iv p1, iv p2, iv p3, iv c0, iv c1, iv c2, rv b6, rv b30, iv 0, iv 3, iv 1, iv 1, iv 1, iv 0, iv (own_tok [c0, c1, c2])] [(.int (0 : Int32)), (.int (own_tok [c0, c1, c2]))])) t → Steps p.tables e below (s₁.setTop (entryFrame m #[(.int p0), (.int p1), (.int p2), (.int p3)] maxLocals)) t := by
      intro t kt
      refine G318 _ ?_
      refine XS.ifYes X317.here hx rfl (pc0 := 137) (pc' := 170) rfl (hb hby at_137) rfl ((if0 _ _).trans (teq hc137_319).1) (by decide) (by decide) ?_
      refine XS.iconst X317.here hx rfl (hb hby at_170) ?_
      refine XS.istore X317.here hx rfl (hb hby at_171) rfl (l' := #[iv p0, iv p1, iv p2, iv p3, iv c0, iv c1, iv c2, rv b6, rv b30, iv 0, iv 3, iv 1, iv 1, iv 1, iv 0, .unset]) rfl ?_
      refine XS.aload X317.here hx rfl (hb hby at_173) rfl rfl ?_
      refine XS.iload X317.here hx rfl (hb hby at_175) rfl ?_
      refine XS.iload X317.here hx rfl (hb hby at_177) rfl ?_
      refine st320 _ ?_
      refine XS.istore X320.here hx rfl (hb hby at_182) rfl (l' := #[iv p0, iv p1, iv p2, iv p3, iv c0, iv c1, iv c2, rv b6, rv b30, iv 0, iv 3, iv 1, iv 1, iv 1, iv 0, iv (own_tok [c0, c1, c2])]) rfl ?_
      refine XS.iload X320.here hx rfl (hb hby at_184) rfl ?_
      refine XS.iload X320.here hx rfl (hb hby at_186) rfl ?_
      exact kt
     have hc188_322 : (own_tok [c0, c1, c2]) = (0 : Int32) := by rw [own_tok, if_pos hc137_319]
     obtain ⟨fs, hr, hrun, hended, hW, hsame⟩ := X320.leave (v := some (.int (1 : Int32))) (fun h => by rw [Bd.returns] at h; cases h)
     refine ⟨_, _, G321 _ ?_, hrun, hended, _, _, rfl, ?_, ⟨_, rfl⟩, hW, hsame.mono (by decide) (by decide)⟩
     ·skip
      refine XS.icmpNo X320.here hx rfl (hb hby at_188) rfl (teq hc188_322).2 ?_
      refine XS.iconst X320.here hx rfl (hb hby at_191) ?_
      refine XS.goto X320.here hx rfl (pc0 := 192) (pc' := 196) rfl (hb hby at_192) (by decide) (by decide) ?_
      exact retN X320 hx (t := .boolean) Bd.returns (by simp) (hb hby at_196) hr
     ·show Q0 Z p0 p1 p2 p3 tt ct cst fv h0 n0 _ T320.heap _
      rw [eh320]
      exact ⟨rfl, N320⟩
    ·skip
     have G323 : ∀ t, Steps p.tables e below (T317.setTop (mkF m 142 #[iv p0, iv p1, iv p2, iv p3, iv c0, iv c1, iv c2, rv b6, rv b30, iv 0, iv 3, iv 1, iv 1, iv 1, .unset, .unset] [(.int (1 : Int32))])) t → Steps p.tables e below (s₁.setTop (entryFrame m #[(.int p0), (.int p1), (.int p2), (.int p3)] maxLocals)) t := by
      intro t kt
      refine G318 _ ?_
      refine XS.ifNo X317.here hx rfl (hb hby at_137) rfl ((if0 _ _).trans (feq hc137_319).1) ?_
      refine XS.iload X317.here hx rfl (hb hby at_140) rfl ?_
      exact kt
     obtain ⟨_, _, ⟨T324, L324, k324, n324⟩, -, X324, ⟨Lc324, hQ324, l324, y324, z324⟩, st324⟩ := Jvm.LawKit.callS X317 hx (y := (⟨"com/example/wary_bearer/warybearer/http/Http1ReaderIsTokenPinLaw", "isT", "(C)Z"⟩ : MethodName)) hown (mvT hZ (hw _ (List.mem_of_getElem? (i := 59) rfl))) (mvT hZ (hw _ (List.mem_of_getElem? (i := 60) rfl))) (mvT hZ (hw _ (List.mem_of_getElem? (i := 2) rfl))) (mvT hZ (hw _ (List.mem_of_getElem? (i := 61) rfl))) (by decide) (backOf (W := 0) (rm14 l Z a0 hw [] c1  T37.heap n0 z252 ) hZ (hw _ (List.mem_of_getElem? (i := 61) rfl)) (hw _ (List.mem_of_getElem? (i := 2) rfl)) (by decide) (by decide)) (g := (mkF m 147 #[iv p0, iv p1, iv p2, iv p3, iv c0, iv c1, iv c2, rv b6, rv b30, iv 0, iv 3, iv 1, iv 1, iv 1, .unset, .unset] [(.int c1)])) rfl (by rw [hml]; rfl) (argsL := [(.int c1)]) (rest := []) (lenOf pd_16 rfl) rfl (by show 2 * 0 + _ ≤ _; exact Nat.le_of_eq rfl) (hb hby at_147) (fun _ _ => ⟨rfl, eh317, (by decide : 4 + 0 ≤ _), (by decide : 16 + 0 ≤ _)⟩)
     dsimp only [Pt.U, Pt.locs, Pt.cells, Pt.slots] at X324 l324 y324 z324 st324 hQ324
     subst l324 y324 z324
     obtain ⟨rfl, N324q, eh324⟩ := hQ324
     have N324 := Fr.app N317 N324q
     have G325 : ∀ t, Steps p.tables e below (T324.setTop (mkF m 150 #[iv p0, iv p1, iv p2, iv p3, iv c0, iv c1, iv c2, rv b6, rv b30, iv 0, iv 3, iv 1, iv 1, iv 1, .unset, .unset] [(.int (fisT c1))])) t → Steps p.tables e below (s₁.setTop (entryFrame m #[(.int p0), (.int p1), (.int p2), (.int p3)] maxLocals)) t := by
      intro t kt
      refine G323 _ ?_
      refine XS.ifNo X317.here hx rfl (hb hby at_142) rfl ((if0 _ _).trans (feq (by decide)).1) ?_
      refine XS.iload X317.here hx rfl (hb hby at_145) rfl ?_
      refine st324 _ ?_
      exact kt
     by_cases hc150_326 : (fisT c1) = (0 : Int32)
     ·skip
      obtain ⟨_, _, ⟨T327, L327, k327, n327⟩, -, X327, ⟨Lc327, hQ327, l327, y327, z327⟩, st327⟩ := Jvm.LawKit.callS X324 hx (y := (⟨"com/example/wary_bearer/warybearer/http/Http1Reader", "isToken", "(Ljava/lang/String;II)Z"⟩ : MethodName)) hown (mvT hZ (hw _ (List.mem_of_getElem? (i := 35) rfl))) (mvT hZ (hw _ (List.mem_of_getElem? (i := 36) rfl))) (mvT hZ (hw _ (List.mem_of_getElem? (i := 37) rfl))) (mvT hZ (hw _ (List.mem_of_getElem? (i := 38) rfl))) (by decide) (backOf (W := 0) (rmTokU03 l Z a0 hw [] b30 c0 c1 c2 ta37 kb37 tt ct cst fv T37.heap n0 z252 A37 Fc37 Fv37 V37 fa249 hb0 hb1 hb2 TS TA TS2 TV SS) hZ (hw _ (List.mem_of_getElem? (i := 38) rfl)) (hw _ (List.mem_of_getElem? (i := 37) rfl)) (by decide) (by decide)) (g := (mkF m 179 #[iv p0, iv p1, iv p2, iv p3, iv c0, iv c1, iv c2, rv b6, rv b30, iv 0, iv 3, iv 1, iv 1, iv 1, iv 0, .unset] [(.int (3 : Int32)), (.int (0 : Int32)), (.ref b30)])) rfl (by rw [hml]; rfl) (argsL := [(.ref b30), (.int (0 : Int32)), (.int (3 : Int32))]) (rest := []) (lenOf pd_15 rfl) rfl (by show 2 * 0 + _ ≤ _; exact Nat.le_of_eq rfl) (hb hby at_179) (fun _ _ => ⟨rfl, eh324, (by decide : 4 + 0 ≤ _), (by decide : 16 + 0 ≤ _)⟩)
      dsimp only [Pt.U, Pt.locs, Pt.cells, Pt.slots] at X327 l327 y327 z327 st327 hQ327
      subst l327 y327 z327
      obtain ⟨rfl, N327q, eh327⟩ := hQ327
      have N327 := Fr.app N324 N327q
      have G328 : ∀ t, Steps p.tables e below (T327.setTop (mkF m 188 #[iv p0, iv p1, iv p2, iv p3, iv c0, iv c1, iv c2, rv b6, rv b30, iv 0, iv 3, iv 1, iv 1, iv 1, iv 0, iv (own_tok [c0, c1, c2])] [(.int (0 : Int32)), (.int (own_tok [c0, c1, c2]))])) t → Steps p.tables e below (s₁.setTop (entryFrame m #[(.int p0), (.int p1), (.int p2), (.int p3)] maxLocals)) t := by
       intro t kt
       refine G325 _ ?_
       refine XS.ifYes X324.here hx rfl (pc0 := 150) (pc' := 170) rfl (hb hby at_150) rfl ((if0 _ _).trans (teq hc150_326).1) (by decide) (by decide) ?_
       refine XS.iconst X324.here hx rfl (hb hby at_170) ?_
       refine XS.istore X324.here hx rfl (hb hby at_171) rfl (l' := #[iv p0, iv p1, iv p2, iv p3, iv c0, iv c1, iv c2, rv b6, rv b30, iv 0, iv 3, iv 1, iv 1, iv 1, iv 0, .unset]) rfl ?_
       refine XS.aload X324.here hx rfl (hb hby at_173) rfl rfl ?_
       refine XS.iload X324.here hx rfl (hb hby at_175) rfl ?_
       refine XS.iload X324.here hx rfl (hb hby at_177) rfl ?_
       refine st327 _ ?_
       refine XS.istore X327.here hx rfl (hb hby at_182) rfl (l' := #[iv p0, iv p1, iv p2, iv p3, iv c0, iv c1, iv c2, rv b6, rv b30, iv 0, iv 3, iv 1, iv 1, iv 1, iv 0, iv (own_tok [c0, c1, c2])]) rfl ?_
       refine XS.iload X327.here hx rfl (hb hby at_184) rfl ?_
       refine XS.iload X327.here hx rfl (hb hby at_186) rfl ?_
       exact kt
      have hc188_329 : (own_tok [c0, c1, c2]) = (0 : Int32) := by rw [own_tok, if_neg hc137_319, own_tok, if_pos hc150_326]
      obtain ⟨fs, hr, hrun, hended, hW, hsame⟩ := X327.leave (v := some (.int (1 : Int32))) (fun h => by rw [Bd.returns] at h; cases h)
      refine ⟨_, _, G328 _ ?_, hrun, hended, _, _, rfl, ?_, ⟨_, rfl⟩, hW, hsame.mono (by decide) (by decide)⟩
      ·skip
       refine XS.icmpNo X327.here hx rfl (hb hby at_188) rfl (teq hc188_329).2 ?_
       refine XS.iconst X327.here hx rfl (hb hby at_191) ?_
       refine XS.goto X327.here hx rfl (pc0 := 192) (pc' := 196) rfl (hb hby at_192) (by decide) (by decide) ?_
       exact retN X327 hx (t := .boolean) Bd.returns (by simp) (hb hby at_196) hr
      ·show Q0 Z p0 p1 p2 p3 tt ct cst fv h0 n0 _ T327.heap _
       rw [eh327]
       exact ⟨rfl, N327⟩
     ·skip
      have G330 : ∀ t, Steps p.tables e below (T324.setTop (mkF m 155 #[iv p0, iv p1, iv p2, iv p3, iv c0, iv c1, iv c2, rv b6, rv b30, iv 0, iv 3, iv 1, iv 1, iv 1, .unset, .unset] [(.int (1 : Int32))])) t → Steps p.tables e below (s₁.setTop (entryFrame m #[(.int p0), (.int p1), (.int p2), (.int p3)] maxLocals)) t := by
       intro t kt
       refine G325 _ ?_
       refine XS.ifNo X324.here hx rfl (hb hby at_150) rfl ((if0 _ _).trans (feq hc150_326).1) ?_
       refine XS.iload X324.here hx rfl (hb hby at_153) rfl ?_
       exact kt
      obtain ⟨_, _, ⟨T331, L331, k331, n331⟩, -, X331, ⟨Lc331, hQ331, l331, y331, z331⟩, st331⟩ := Jvm.LawKit.callS X324 hx (y := (⟨"com/example/wary_bearer/warybearer/http/Http1ReaderIsTokenPinLaw", "isT", "(C)Z"⟩ : MethodName)) hown (mvT hZ (hw _ (List.mem_of_getElem? (i := 59) rfl))) (mvT hZ (hw _ (List.mem_of_getElem? (i := 60) rfl))) (mvT hZ (hw _ (List.mem_of_getElem? (i := 2) rfl))) (mvT hZ (hw _ (List.mem_of_getElem? (i := 61) rfl))) (by decide) (backOf (W := 0) (rm14 l Z a0 hw [] c2  T37.heap n0 z252 ) hZ (hw _ (List.mem_of_getElem? (i := 61) rfl)) (hw _ (List.mem_of_getElem? (i := 2) rfl)) (by decide) (by decide)) (g := (mkF m 160 #[iv p0, iv p1, iv p2, iv p3, iv c0, iv c1, iv c2, rv b6, rv b30, iv 0, iv 3, iv 1, iv 1, iv 1, .unset, .unset] [(.int c2)])) rfl (by rw [hml]; rfl) (argsL := [(.int c2)]) (rest := []) (lenOf pd_16 rfl) rfl (by show 2 * 0 + _ ≤ _; exact Nat.le_of_eq rfl) (hb hby at_160) (fun _ _ => ⟨rfl, eh324, (by decide : 4 + 0 ≤ _), (by decide : 16 + 0 ≤ _)⟩)
      dsimp only [Pt.U, Pt.locs, Pt.cells, Pt.slots] at X331 l331 y331 z331 st331 hQ331
      subst l331 y331 z331
      obtain ⟨rfl, N331q, eh331⟩ := hQ331
      have N331 := Fr.app N324 N331q
      have G332 : ∀ t, Steps p.tables e below (T331.setTop (mkF m 163 #[iv p0, iv p1, iv p2, iv p3, iv c0, iv c1, iv c2, rv b6, rv b30, iv 0, iv 3, iv 1, iv 1, iv 1, .unset, .unset] [(.int (fisT c2))])) t → Steps p.tables e below (s₁.setTop (entryFrame m #[(.int p0), (.int p1), (.int p2), (.int p3)] maxLocals)) t := by
       intro t kt
       refine G330 _ ?_
       refine XS.ifNo X324.here hx rfl (hb hby at_155) rfl ((if0 _ _).trans (feq (by decide)).1) ?_
       refine XS.iload X324.here hx rfl (hb hby at_158) rfl ?_
       refine st331 _ ?_
       exact kt
      by_cases hc163_333 : (fisT c2) = (0 : Int32)
      ·skip
       obtain ⟨_, _, ⟨T334, L334, k334, n334⟩, -, X334, ⟨Lc334, hQ334, l334, y334, z334⟩, st334⟩ := Jvm.LawKit.callS X331 hx (y := (⟨"com/example/wary_bearer/warybearer/http/Http1Reader", "isToken", "(Ljava/lang/String;II)Z"⟩ : MethodName)) hown (mvT hZ (hw _ (List.mem_of_getElem? (i := 35) rfl))) (mvT hZ (hw _ (List.mem_of_getElem? (i := 36) rfl))) (mvT hZ (hw _ (List.mem_of_getElem? (i := 37) rfl))) (mvT hZ (hw _ (List.mem_of_getElem? (i := 38) rfl))) (by decide) (backOf (W := 0) (rmTokU03 l Z a0 hw [] b30 c0 c1 c2 ta37 kb37 tt ct cst fv T37.heap n0 z252 A37 Fc37 Fv37 V37 fa249 hb0 hb1 hb2 TS TA TS2 TV SS) hZ (hw _ (List.mem_of_getElem? (i := 38) rfl)) (hw _ (List.mem_of_getElem? (i := 37) rfl)) (by decide) (by decide)) (g := (mkF m 179 #[iv p0, iv p1, iv p2, iv p3, iv c0, iv c1, iv c2, rv b6, rv b30, iv 0, iv 3, iv 1, iv 1, iv 1, iv 0, .unset] [(.int (3 : Int32)), (.int (0 : Int32)), (.ref b30)])) rfl (by rw [hml]; rfl) (argsL := [(.ref b30), (.int (0 : Int32)), (.int (3 : Int32))]) (rest := []) (lenOf pd_15 rfl) rfl (by show 2 * 0 + _ ≤ _; exact Nat.le_of_eq rfl) (hb hby at_179) (fun _ _ => ⟨rfl, eh331, (by decide : 4 + 0 ≤ _), (by decide : 16 + 0 ≤ _)⟩)
       dsimp only [Pt.U, Pt.locs, Pt.cells, Pt.slots] at X334 l334 y334 z334 st334 hQ334
       subst l334 y334 z334
       obtain ⟨rfl, N334q, eh334⟩ := hQ334
       have N334 := Fr.app N331 N334q
       have G335 : ∀ t, Steps p.tables e below (T334.setTop (mkF m 188 #[iv p0, iv p1, iv p2, iv p3, iv c0, iv c1, iv c2, rv b6, rv b30, iv 0, iv 3, iv 1, iv 1, iv 1, iv 0, iv (own_tok [c0, c1, c2])] [(.int (0 : Int32)), (.int (own_tok [c0, c1, c2]))])) t → Steps p.tables e below (s₁.setTop (entryFrame m #[(.int p0), (.int p1), (.int p2), (.int p3)] maxLocals)) t := by
        intro t kt
        refine G332 _ ?_
        refine XS.ifYes X331.here hx rfl (pc0 := 163) (pc' := 170) rfl (hb hby at_163) rfl ((if0 _ _).trans (teq hc163_333).1) (by decide) (by decide) ?_
        refine XS.iconst X331.here hx rfl (hb hby at_170) ?_
        refine XS.istore X331.here hx rfl (hb hby at_171) rfl (l' := #[iv p0, iv p1, iv p2, iv p3, iv c0, iv c1, iv c2, rv b6, rv b30, iv 0, iv 3, iv 1, iv 1, iv 1, iv 0, .unset]) rfl ?_
        refine XS.aload X331.here hx rfl (hb hby at_173) rfl rfl ?_
        refine XS.iload X331.here hx rfl (hb hby at_175) rfl ?_
        refine XS.iload X331.here hx rfl (hb hby at_177) rfl ?_
        refine st334 _ ?_
        refine XS.istore X334.here hx rfl (hb hby at_182) rfl (l' := #[iv p0, iv p1, iv p2, iv p3, iv c0, iv c1, iv c2, rv b6, rv b30, iv 0, iv 3, iv 1, iv 1, iv 1, iv 0, iv (own_tok [c0, c1, c2])]) rfl ?_
        refine XS.iload X334.here hx rfl (hb hby at_184) rfl ?_
        refine XS.iload X334.here hx rfl (hb hby at_186) rfl ?_
        exact kt
       have hc188_336 : (own_tok [c0, c1, c2]) = (0 : Int32) := by rw [own_tok, if_neg hc137_319, own_tok, if_neg hc150_326, own_tok, if_pos hc163_333]
       obtain ⟨fs, hr, hrun, hended, hW, hsame⟩ := X334.leave (v := some (.int (1 : Int32))) (fun h => by rw [Bd.returns] at h; cases h)
       refine ⟨_, _, G335 _ ?_, hrun, hended, _, _, rfl, ?_, ⟨_, rfl⟩, hW, hsame.mono (by decide) (by decide)⟩
       ·skip
        refine XS.icmpNo X334.here hx rfl (hb hby at_188) rfl (teq hc188_336).2 ?_
        show Steps p.tables e below (T334.setTop (mkF m 191 #[iv p0, iv p1, iv p2, iv p3, iv c0, iv c1, iv c2, rv b6, rv b30, iv 0, iv 3, iv 1, iv 1, iv 1, iv 0, iv (own_tok [c0, c1, c2])] [])) _
        refine XS.iconst X334.here hx rfl (hb hby at_191) ?_
        refine XS.goto X334.here hx rfl (pc0 := 192) (pc' := 196) rfl (hb hby at_192) (by decide) (by decide) ?_
        exact retN X334 hx (t := .boolean) Bd.returns (by simp) (hb hby at_196) hr
       ·show Q0 Z p0 p1 p2 p3 tt ct cst fv h0 n0 _ T334.heap _
        rw [eh334]
        exact ⟨rfl, N334⟩
      ·skip
       obtain ⟨_, _, ⟨T337, L337, k337, n337⟩, -, X337, ⟨Lc337, hQ337, l337, y337, z337⟩, st337⟩ := Jvm.LawKit.callS X331 hx (y := (⟨"com/example/wary_bearer/warybearer/http/Http1Reader", "isToken", "(Ljava/lang/String;II)Z"⟩ : MethodName)) hown (mvT hZ (hw _ (List.mem_of_getElem? (i := 35) rfl))) (mvT hZ (hw _ (List.mem_of_getElem? (i := 36) rfl))) (mvT hZ (hw _ (List.mem_of_getElem? (i := 37) rfl))) (mvT hZ (hw _ (List.mem_of_getElem? (i := 38) rfl))) (by decide) (backOf (W := 0) (rmTokU03 l Z a0 hw [] b30 c0 c1 c2 ta37 kb37 tt ct cst fv T37.heap n0 z252 A37 Fc37 Fv37 V37 fa249 hb0 hb1 hb2 TS TA TS2 TV SS) hZ (hw _ (List.mem_of_getElem? (i := 38) rfl)) (hw _ (List.mem_of_getElem? (i := 37) rfl)) (by decide) (by decide)) (g := (mkF m 179 #[iv p0, iv p1, iv p2, iv p3, iv c0, iv c1, iv c2, rv b6, rv b30, iv 0, iv 3, iv 1, iv 1, iv 1, iv 1, .unset] [(.int (3 : Int32)), (.int (0 : Int32)), (.ref b30)])) rfl (by rw [hml]; rfl) (argsL := [(.ref b30), (.int (0 : Int32)), (.int (3 : Int32))]) (rest := []) (lenOf pd_15 rfl) rfl (by show 2 * 0 + _ ≤ _; exact Nat.le_of_eq rfl) (hb hby at_179) (fun _ _ => ⟨rfl, eh331, (by decide : 4 + 0 ≤ _), (by decide : 16 + 0 ≤ _)⟩)
       dsimp only [Pt.U, Pt.locs, Pt.cells, Pt.slots] at X337 l337 y337 z337 st337 hQ337
       subst l337 y337 z337
       obtain ⟨rfl, N337q, eh337⟩ := hQ337
       have N337 := Fr.app N331 N337q
       have G338 : ∀ t, Steps p.tables e below (T337.setTop (mkF m 188 #[iv p0, iv p1, iv p2, iv p3, iv c0, iv c1, iv c2, rv b6, rv b30, iv 0, iv 3, iv 1, iv 1, iv 1, iv 1, iv (own_tok [c0, c1, c2])] [(.int (1 : Int32)), (.int (own_tok [c0, c1, c2]))])) t → Steps p.tables e below (s₁.setTop (entryFrame m #[(.int p0), (.int p1), (.int p2), (.int p3)] maxLocals)) t := by
        intro t kt
        refine G332 _ ?_
        refine XS.ifNo X331.here hx rfl (hb hby at_163) rfl ((if0 _ _).trans (feq hc163_333).1) ?_
        refine XS.iconst X331.here hx rfl (hb hby at_166) ?_
        refine XS.goto X331.here hx rfl (pc0 := 167) (pc' := 171) rfl (hb hby at_167) (by decide) (by decide) ?_
        refine XS.istore X331.here hx rfl (hb hby at_171) rfl (l' := #[iv p0, iv p1, iv p2, iv p3, iv c0, iv c1, iv c2, rv b6, rv b30, iv 0, iv 3, iv 1, iv 1, iv 1, iv 1, .unset]) rfl ?_
        refine XS.aload X331.here hx rfl (hb hby at_173) rfl rfl ?_
        refine XS.iload X331.here hx rfl (hb hby at_175) rfl ?_
        refine XS.iload X331.here hx rfl (hb hby at_177) rfl ?_
        refine st337 _ ?_
        refine XS.istore X337.here hx rfl (hb hby at_182) rfl (l' := #[iv p0, iv p1, iv p2, iv p3, iv c0, iv c1, iv c2, rv b6, rv b30, iv 0, iv 3, iv 1, iv 1, iv 1, iv 1, iv (own_tok [c0, c1, c2])]) rfl ?_
        refine XS.iload X337.here hx rfl (hb hby at_184) rfl ?_
        show Steps p.tables e below (T337.setTop (mkF m 186 #[iv p0, iv p1, iv p2, iv p3, iv c0, iv c1, iv c2, rv b6, rv b30, iv 0, iv 3, iv 1, iv 1, iv 1, iv 1, iv (own_tok [c0, c1, c2])] [(.int (own_tok [c0, c1, c2]))])) _
        refine XS.iload X337.here hx rfl (hb hby at_186) rfl ?_
        exact kt
       have hc188_339 : (own_tok [c0, c1, c2]) = (1 : Int32) := by rw [own_tok, if_neg hc137_319, own_tok, if_neg hc150_326, own_tok, if_neg hc163_333, own_tok]
       obtain ⟨fs, hr, hrun, hended, hW, hsame⟩ := X337.leave (v := some (.int (1 : Int32))) (fun h => by rw [Bd.returns] at h; cases h)
       refine ⟨_, _, G338 _ ?_, hrun, hended, _, _, rfl, ?_, ⟨_, rfl⟩, hW, hsame.mono (by decide) (by decide)⟩
       ·skip
        refine XS.icmpNo X337.here hx rfl (hb hby at_188) rfl (teq hc188_339).2 ?_
        refine XS.iconst X337.here hx rfl (hb hby at_191) ?_
        refine XS.goto X337.here hx rfl (pc0 := 192) (pc' := 196) rfl (hb hby at_192) (by decide) (by decide) ?_
        exact retN X337 hx (t := .boolean) Bd.returns (by simp) (hb hby at_196) hr
       ·show Q0 Z p0 p1 p2 p3 tt ct cst fv h0 n0 _ T337.heap _
        rw [eh337]
        exact ⟨rfl, N337⟩
  ·rcases own_at4 hto4 with rfl | rfl | rfl | rfl
   ·skip
    have G340 : ∀ t, Steps p.tables e below (T37.setTop (mkF m 66 #[iv p0, iv p1, iv p2, iv p3, iv c0, iv c1, iv c2, rv b6, rv b30, iv 1, iv 0, .unset, .unset, .unset, .unset, .unset] [(.int (1 : Int32))])) t → Steps p.tables e below (s₁.setTop (entryFrame m #[(.int p0), (.int p1), (.int p2), (.int p3)] maxLocals)) t := by
     intro t kt
     refine G255 _ ?_
     show Steps p.tables e below (T37.setTop (mkF m 64 #[iv p0, iv p1, iv p2, iv p3, iv c0, iv c1, iv c2, rv b6, rv b30, iv 1, iv 0, .unset, .unset, .unset, .unset, .unset] [])) _
     refine XS.iload X37.here hx rfl (hb hby at_64) rfl ?_
     exact kt
    have G341 : ∀ t, Steps p.tables e below (T37.setTop (mkF m 85 #[iv p0, iv p1, iv p2, iv p3, iv c0, iv c1, iv c2, rv b6, rv b30, iv 1, iv 0, iv 0, .unset, .unset, .unset, .unset] [(.int (1 : Int32)), (.int (1 : Int32))])) t → Steps p.tables e below (s₁.setTop (entryFrame m #[(.int p0), (.int p1), (.int p2), (.int p3)] maxLocals)) t := by
     intro t kt
     refine G340 _ ?_
     refine XS.ifYes X37.here hx rfl (pc0 := 66) (pc' := 79) rfl (hb hby at_66) rfl ((if0 _ _).trans (tlt (by decide)).2.2.1) (by decide) (by decide) ?_
     refine XS.iconst X37.here hx rfl (hb hby at_79) ?_
     refine XS.istore X37.here hx rfl (hb hby at_80) rfl (l' := #[iv p0, iv p1, iv p2, iv p3, iv c0, iv c1, iv c2, rv b6, rv b30, iv 1, iv 0, iv 0, .unset, .unset, .unset, .unset]) rfl ?_
     refine XS.iload X37.here hx rfl (hb hby at_82) rfl ?_
     refine XS.iconst X37.here hx rfl (hb hby at_84) ?_
     exact kt
    have G342 : ∀ t, Steps p.tables e below (T37.setTop (mkF m 91 #[iv p0, iv p1, iv p2, iv p3, iv c0, iv c1, iv c2, rv b6, rv b30, iv 1, iv 0, iv 0, .unset, .unset, .unset, .unset] [(.int (0 : Int32)), (.int (1 : Int32))])) t → Steps p.tables e below (s₁.setTop (entryFrame m #[(.int p0), (.int p1), (.int p2), (.int p3)] maxLocals)) t := by
     intro t kt
     refine G341 _ ?_
     refine XS.icmpNo X37.here hx rfl (hb hby at_85) rfl (flt (by decide)).2.2.1 ?_
     refine XS.iconst X37.here hx rfl (hb hby at_88) ?_
     refine XS.iload X37.here hx rfl (hb hby at_89) rfl ?_
     exact kt
    have G343 : ∀ t, Steps p.tables e below (T37.setTop (mkF m 104 #[iv p0, iv p1, iv p2, iv p3, iv c0, iv c1, iv c2, rv b6, rv b30, iv 1, iv 0, iv 0, iv 0, .unset, .unset, .unset] [(.int (2 : Int32)), (.int (1 : Int32))])) t → Steps p.tables e below (s₁.setTop (entryFrame m #[(.int p0), (.int p1), (.int p2), (.int p3)] maxLocals)) t := by
     intro t kt
     refine G342 _ ?_
     refine XS.icmpYes X37.here hx rfl (pc0 := 91) (pc' := 98) rfl (hb hby at_91) rfl (flt (by decide)).2.1 (by decide) (by decide) ?_
     refine XS.iconst X37.here hx rfl (hb hby at_98) ?_
     refine XS.istore X37.here hx rfl (hb hby at_99) rfl (l' := #[iv p0, iv p1, iv p2, iv p3, iv c0, iv c1, iv c2, rv b6, rv b30, iv 1, iv 0, iv 0, iv 0, .unset, .unset, .unset]) rfl ?_
     refine XS.iload X37.here hx rfl (hb hby at_101) rfl ?_
     refine XS.iconst X37.here hx rfl (hb hby at_103) ?_
     exact kt
    have G344 : ∀ t, Steps p.tables e below (T37.setTop (mkF m 110 #[iv p0, iv p1, iv p2, iv p3, iv c0, iv c1, iv c2, rv b6, rv b30, iv 1, iv 0, iv 0, iv 0, .unset, .unset, .unset] [(.int (0 : Int32)), (.int (2 : Int32))])) t → Steps p.tables e below (s₁.setTop (entryFrame m #[(.int p0), (.int p1), (.int p2), (.int p3)] maxLocals)) t := by
     intro t kt
     refine G343 _ ?_
     refine XS.icmpNo X37.here hx rfl (hb hby at_104) rfl (flt (by decide)).2.2.1 ?_
     refine XS.iconst X37.here hx rfl (hb hby at_107) ?_
     refine XS.iload X37.here hx rfl (hb hby at_108) rfl ?_
     exact kt
    have G345 : ∀ t, Steps p.tables e below (T37.setTop (mkF m 124 #[iv p0, iv p1, iv p2, iv p3, iv c0, iv c1, iv c2, rv b6, rv b30, iv 1, iv 0, iv 0, iv 0, iv 0, .unset, .unset] [(.int (0 : Int32)), (.int (1 : Int32))])) t → Steps p.tables e below (s₁.setTop (entryFrame m #[(.int p0), (.int p1), (.int p2), (.int p3)] maxLocals)) t := by
     intro t kt
     refine G344 _ ?_
     refine XS.icmpYes X37.here hx rfl (pc0 := 110) (pc' := 117) rfl (hb hby at_110) rfl (flt (by decide)).2.1 (by decide) (by decide) ?_
     refine XS.iconst X37.here hx rfl (hb hby at_117) ?_
     refine XS.istore X37.here hx rfl (hb hby at_118) rfl (l' := #[iv p0, iv p1, iv p2, iv p3, iv c0, iv c1, iv c2, rv b6, rv b30, iv 1, iv 0, iv 0, iv 0, iv 0, .unset, .unset]) rfl ?_
     refine XS.iload X37.here hx rfl (hb hby at_120) rfl ?_
     refine XS.iload X37.here hx rfl (hb hby at_122) rfl ?_
     exact kt
    obtain ⟨_, _, ⟨T346, L346, k346, n346⟩, -, X346, ⟨Lc346, hQ346, l346, y346, z346⟩, st346⟩ := Jvm.LawKit.callS X37 hx (y := (⟨"com/example/wary_bearer/warybearer/http/Http1Reader", "isToken", "(Ljava/lang/String;II)Z"⟩ : MethodName)) hown (mvT hZ (hw _ (List.mem_of_getElem? (i := 35) rfl))) (mvT hZ (hw _ (List.mem_of_getElem? (i := 36) rfl))) (mvT hZ (hw _ (List.mem_of_getElem? (i := 37) rfl))) (mvT hZ (hw _ (List.mem_of_getElem? (i := 38) rfl))) (by decide) (backOf (W := 0) (rmTok0 l Z a0 hw [] b30 (1 : Int32) (0 : Int32) T37.heap n0 z252 (by decide)) hZ (hw _ (List.mem_of_getElem? (i := 38) rfl)) (hw _ (List.mem_of_getElem? (i := 37) rfl)) (by decide) (by decide)) (g := (mkF m 179 #[iv p0, iv p1, iv p2, iv p3, iv c0, iv c1, iv c2, rv b6, rv b30, iv 1, iv 0, iv 0, iv 0, iv 0, iv 0, .unset] [(.int (0 : Int32)), (.int (1 : Int32)), (.ref b30)])) rfl (by rw [hml]; rfl) (argsL := [(.ref b30), (.int (1 : Int32)), (.int (0 : Int32))]) (rest := []) (lenOf pd_15 rfl) rfl (by show 2 * 0 + _ ≤ _; exact Nat.le_of_eq rfl) (hb hby at_179) (fun _ _ => ⟨rfl, rfl, (by decide : 4 + 0 ≤ _), (by decide : 16 + 0 ≤ _)⟩)
    dsimp only [Pt.U, Pt.locs, Pt.cells, Pt.slots] at X346 l346 y346 z346 st346 hQ346
    subst l346 y346 z346
    obtain ⟨rfl, N346q, eh346⟩ := hQ346
    have N346 := Fr.app N37 N346q
    have G347 : ∀ t, Steps p.tables e below (T346.setTop (mkF m 188 #[iv p0, iv p1, iv p2, iv p3, iv c0, iv c1, iv c2, rv b6, rv b30, iv 1, iv 0, iv 0, iv 0, iv 0, iv 0, iv 0] [(.int (0 : Int32)), (.int (0 : Int32))])) t → Steps p.tables e below (s₁.setTop (entryFrame m #[(.int p0), (.int p1), (.int p2), (.int p3)] maxLocals)) t := by
     intro t kt
     refine G345 _ ?_
     refine XS.icmpYes X37.here hx rfl (pc0 := 124) (pc' := 170) rfl (hb hby at_124) rfl (flt (by decide)).2.1 (by decide) (by decide) ?_
     refine XS.iconst X37.here hx rfl (hb hby at_170) ?_
     refine XS.istore X37.here hx rfl (hb hby at_171) rfl (l' := #[iv p0, iv p1, iv p2, iv p3, iv c0, iv c1, iv c2, rv b6, rv b30, iv 1, iv 0, iv 0, iv 0, iv 0, iv 0, .unset]) rfl ?_
     refine XS.aload X37.here hx rfl (hb hby at_173) rfl rfl ?_
     show Steps p.tables e below (T37.setTop (mkF m 175 #[iv p0, iv p1, iv p2, iv p3, iv c0, iv c1, iv c2, rv b6, rv b30, iv 1, iv 0, iv 0, iv 0, iv 0, iv 0, .unset] [(.ref b30)])) _
     refine XS.iload X37.here hx rfl (hb hby at_175) rfl ?_
     refine XS.iload X37.here hx rfl (hb hby at_177) rfl ?_
     refine st346 _ ?_
     refine XS.istore X346.here hx rfl (hb hby at_182) rfl (l' := #[iv p0, iv p1, iv p2, iv p3, iv c0, iv c1, iv c2, rv b6, rv b30, iv 1, iv 0, iv 0, iv 0, iv 0, iv 0, iv 0]) rfl ?_
     refine XS.iload X346.here hx rfl (hb hby at_184) rfl ?_
     refine XS.iload X346.here hx rfl (hb hby at_186) rfl ?_
     exact kt
    obtain ⟨fs, hr, hrun, hended, hW, hsame⟩ := X346.leave (v := some (.int (1 : Int32))) (fun h => by rw [Bd.returns] at h; cases h)
    refine ⟨_, _, G347 _ ?_, hrun, hended, _, _, rfl, ?_, ⟨_, rfl⟩, hW, hsame.mono (by decide) (by decide)⟩
    ·skip
     refine XS.icmpNo X346.here hx rfl (hb hby at_188) rfl (teq (by decide)).2 ?_
     refine XS.iconst X346.here hx rfl (hb hby at_191) ?_
     refine XS.goto X346.here hx rfl (pc0 := 192) (pc' := 196) rfl (hb hby at_192) (by decide) (by decide) ?_
     exact retN X346 hx (t := .boolean) Bd.returns (by simp) (hb hby at_196) hr
    ·show Q0 Z p0 p1 p2 p3 tt ct cst fv h0 n0 _ T346.heap _
     rw [eh346]
     exact ⟨rfl, N346⟩
   ·skip
    have G348 : ∀ t, Steps p.tables e below (T37.setTop (mkF m 66 #[iv p0, iv p1, iv p2, iv p3, iv c0, iv c1, iv c2, rv b6, rv b30, iv 1, iv 1, .unset, .unset, .unset, .unset, .unset] [(.int (1 : Int32))])) t → Steps p.tables e below (s₁.setTop (entryFrame m #[(.int p0), (.int p1), (.int p2), (.int p3)] maxLocals)) t := by
     intro t kt
     refine G255 _ ?_
     show Steps p.tables e below (T37.setTop (mkF m 64 #[iv p0, iv p1, iv p2, iv p3, iv c0, iv c1, iv c2, rv b6, rv b30, iv 1, iv 1, .unset, .unset, .unset, .unset, .unset] [])) _
     refine XS.iload X37.here hx rfl (hb hby at_64) rfl ?_
     exact kt
    have G349 : ∀ t, Steps p.tables e below (T37.setTop (mkF m 85 #[iv p0, iv p1, iv p2, iv p3, iv c0, iv c1, iv c2, rv b6, rv b30, iv 1, iv 1, iv 0, .unset, .unset, .unset, .unset] [(.int (1 : Int32)), (.int (1 : Int32))])) t → Steps p.tables e below (s₁.setTop (entryFrame m #[(.int p0), (.int p1), (.int p2), (.int p3)] maxLocals)) t := by
     intro t kt
     refine G348 _ ?_
     refine XS.ifYes X37.here hx rfl (pc0 := 66) (pc' := 79) rfl (hb hby at_66) rfl ((if0 _ _).trans (tlt (by decide)).2.2.1) (by decide) (by decide) ?_
     refine XS.iconst X37.here hx rfl (hb hby at_79) ?_
     refine XS.istore X37.here hx rfl (hb hby at_80) rfl (l' := #[iv p0, iv p1, iv p2, iv p3, iv c0, iv c1, iv c2, rv b6, rv b30, iv 1, iv 1, iv 0, .unset, .unset, .unset, .unset]) rfl ?_
     refine XS.iload X37.here hx rfl (hb hby at_82) rfl ?_
     refine XS.iconst X37.here hx rfl (hb hby at_84) ?_
     exact kt
    have G350 : ∀ t, Steps p.tables e below (T37.setTop (mkF m 91 #[iv p0, iv p1, iv p2, iv p3, iv c0, iv c1, iv c2, rv b6, rv b30, iv 1, iv 1, iv 0, .unset, .unset, .unset, .unset] [(.int (1 : Int32)), (.int (1 : Int32))])) t → Steps p.tables e below (s₁.setTop (entryFrame m #[(.int p0), (.int p1), (.int p2), (.int p3)] maxLocals)) t := by
     intro t kt
     refine G349 _ ?_
     refine XS.icmpNo X37.here hx rfl (hb hby at_85) rfl (flt (by decide)).2.2.1 ?_
     refine XS.iconst X37.here hx rfl (hb hby at_88) ?_
     refine XS.iload X37.here hx rfl (hb hby at_89) rfl ?_
     exact kt
    have G351 : ∀ t, Steps p.tables e below (T37.setTop (mkF m 104 #[iv p0, iv p1, iv p2, iv p3, iv c0, iv c1, iv c2, rv b6, rv b30, iv 1, iv 1, iv 0, iv 0, .unset, .unset, .unset] [(.int (2 : Int32)), (.int (1 : Int32))])) t → Steps p.tables e below (s₁.setTop (entryFrame m #[(.int p0), (.int p1), (.int p2), (.int p3)] maxLocals)) t := by
     intro t kt
     refine G350 _ ?_
     refine XS.icmpYes X37.here hx rfl (pc0 := 91) (pc' := 98) rfl (hb hby at_91) rfl (flt (by decide)).2.1 (by decide) (by decide) ?_
     refine XS.iconst X37.here hx rfl (hb hby at_98) ?_
     refine XS.istore X37.here hx rfl (hb hby at_99) rfl (l' := #[iv p0, iv p1, iv p2, iv p3, iv c0, iv c1, iv c2, rv b6, rv b30, iv 1, iv 1, iv 0, iv 0, .unset, .unset, .unset]) rfl ?_
     refine XS.iload X37.here hx rfl (hb hby at_101) rfl ?_
     refine XS.iconst X37.here hx rfl (hb hby at_103) ?_
     exact kt
    have G352 : ∀ t, Steps p.tables e below (T37.setTop (mkF m 110 #[iv p0, iv p1, iv p2, iv p3, iv c0, iv c1, iv c2, rv b6, rv b30, iv 1, iv 1, iv 0, iv 0, .unset, .unset, .unset] [(.int (1 : Int32)), (.int (2 : Int32))])) t → Steps p.tables e below (s₁.setTop (entryFrame m #[(.int p0), (.int p1), (.int p2), (.int p3)] maxLocals)) t := by
     intro t kt
     refine G351 _ ?_
     refine XS.icmpNo X37.here hx rfl (hb hby at_104) rfl (flt (by decide)).2.2.1 ?_
     refine XS.iconst X37.here hx rfl (hb hby at_107) ?_
     refine XS.iload X37.here hx rfl (hb hby at_108) rfl ?_
     exact kt
    have G353 : ∀ t, Steps p.tables e below (T37.setTop (mkF m 124 #[iv p0, iv p1, iv p2, iv p3, iv c0, iv c1, iv c2, rv b6, rv b30, iv 1, iv 1, iv 0, iv 0, iv 0, .unset, .unset] [(.int (1 : Int32)), (.int (1 : Int32))])) t → Steps p.tables e below (s₁.setTop (entryFrame m #[(.int p0), (.int p1), (.int p2), (.int p3)] maxLocals)) t := by
     intro t kt
     refine G352 _ ?_
     refine XS.icmpYes X37.here hx rfl (pc0 := 110) (pc' := 117) rfl (hb hby at_110) rfl (flt (by decide)).2.1 (by decide) (by decide) ?_
     refine XS.iconst X37.here hx rfl (hb hby at_117) ?_
     refine XS.istore X37.here hx rfl (hb hby at_118) rfl (l' := #[iv p0, iv p1, iv p2, iv p3, iv c0, iv c1, iv c2, rv b6, rv b30, iv 1, iv 1, iv 0, iv 0, iv 0, .unset, .unset]) rfl ?_
     refine XS.iload X37.here hx rfl (hb hby at_120) rfl ?_
     refine XS.iload X37.here hx rfl (hb hby at_122) rfl ?_
     exact kt
    obtain ⟨_, _, ⟨T354, L354, k354, n354⟩, -, X354, ⟨Lc354, hQ354, l354, y354, z354⟩, st354⟩ := Jvm.LawKit.callS X37 hx (y := (⟨"com/example/wary_bearer/warybearer/http/Http1Reader", "isToken", "(Ljava/lang/String;II)Z"⟩ : MethodName)) hown (mvT hZ (hw _ (List.mem_of_getElem? (i := 35) rfl))) (mvT hZ (hw _ (List.mem_of_getElem? (i := 36) rfl))) (mvT hZ (hw _ (List.mem_of_getElem? (i := 37) rfl))) (mvT hZ (hw _ (List.mem_of_getElem? (i := 38) rfl))) (by decide) (backOf (W := 0) (rmTok0 l Z a0 hw [] b30 (1 : Int32) (1 : Int32) T37.heap n0 z252 (by decide)) hZ (hw _ (List.mem_of_getElem? (i := 38) rfl)) (hw _ (List.mem_of_getElem? (i := 37) rfl)) (by decide) (by decide)) (g := (mkF m 179 #[iv p0, iv p1, iv p2, iv p3, iv c0, iv c1, iv c2, rv b6, rv b30, iv 1, iv 1, iv 0, iv 0, iv 0, iv 0, .unset] [(.int (1 : Int32)), (.int (1 : Int32)), (.ref b30)])) rfl (by rw [hml]; rfl) (argsL := [(.ref b30), (.int (1 : Int32)), (.int (1 : Int32))]) (rest := []) (lenOf pd_15 rfl) rfl (by show 2 * 0 + _ ≤ _; exact Nat.le_of_eq rfl) (hb hby at_179) (fun _ _ => ⟨rfl, rfl, (by decide : 4 + 0 ≤ _), (by decide : 16 + 0 ≤ _)⟩)
    dsimp only [Pt.U, Pt.locs, Pt.cells, Pt.slots] at X354 l354 y354 z354 st354 hQ354
    subst l354 y354 z354
    obtain ⟨rfl, N354q, eh354⟩ := hQ354
    have N354 := Fr.app N37 N354q
    have G355 : ∀ t, Steps p.tables e below (T354.setTop (mkF m 188 #[iv p0, iv p1, iv p2, iv p3, iv c0, iv c1, iv c2, rv b6, rv b30, iv 1, iv 1, iv 0, iv 0, iv 0, iv 0, iv 0] [(.int (0 : Int32)), (.int (0 : Int32))])) t → Steps p.tables e below (s₁.setTop (entryFrame m #[(.int p0), (.int p1), (.int p2), (.int p3)] maxLocals)) t := by
     intro t kt
     refine G353 _ ?_
     refine XS.icmpYes X37.here hx rfl (pc0 := 124) (pc' := 170) rfl (hb hby at_124) rfl (flt (by decide)).2.1 (by decide) (by decide) ?_
     refine XS.iconst X37.here hx rfl (hb hby at_170) ?_
     refine XS.istore X37.here hx rfl (hb hby at_171) rfl (l' := #[iv p0, iv p1, iv p2, iv p3, iv c0, iv c1, iv c2, rv b6, rv b30, iv 1, iv 1, iv 0, iv 0, iv 0, iv 0, .unset]) rfl ?_
     refine XS.aload X37.here hx rfl (hb hby at_173) rfl rfl ?_
     show Steps p.tables e below (T37.setTop (mkF m 175 #[iv p0, iv p1, iv p2, iv p3, iv c0, iv c1, iv c2, rv b6, rv b30, iv 1, iv 1, iv 0, iv 0, iv 0, iv 0, .unset] [(.ref b30)])) _
     refine XS.iload X37.here hx rfl (hb hby at_175) rfl ?_
     refine XS.iload X37.here hx rfl (hb hby at_177) rfl ?_
     refine st354 _ ?_
     refine XS.istore X354.here hx rfl (hb hby at_182) rfl (l' := #[iv p0, iv p1, iv p2, iv p3, iv c0, iv c1, iv c2, rv b6, rv b30, iv 1, iv 1, iv 0, iv 0, iv 0, iv 0, iv 0]) rfl ?_
     refine XS.iload X354.here hx rfl (hb hby at_184) rfl ?_
     refine XS.iload X354.here hx rfl (hb hby at_186) rfl ?_
     exact kt
    obtain ⟨fs, hr, hrun, hended, hW, hsame⟩ := X354.leave (v := some (.int (1 : Int32))) (fun h => by rw [Bd.returns] at h; cases h)
    refine ⟨_, _, G355 _ ?_, hrun, hended, _, _, rfl, ?_, ⟨_, rfl⟩, hW, hsame.mono (by decide) (by decide)⟩
    ·skip
     refine XS.icmpNo X354.here hx rfl (hb hby at_188) rfl (teq (by decide)).2 ?_
     refine XS.iconst X354.here hx rfl (hb hby at_191) ?_
     refine XS.goto X354.here hx rfl (pc0 := 192) (pc' := 196) rfl (hb hby at_192) (by decide) (by decide) ?_
     exact retN X354 hx (t := .boolean) Bd.returns (by simp) (hb hby at_196) hr
    ·show Q0 Z p0 p1 p2 p3 tt ct cst fv h0 n0 _ T354.heap _
     rw [eh354]
     exact ⟨rfl, N354⟩
   ·skip
    have G356 : ∀ t, Steps p.tables e below (T37.setTop (mkF m 66 #[iv p0, iv p1, iv p2, iv p3, iv c0, iv c1, iv c2, rv b6, rv b30, iv 1, iv 2, .unset, .unset, .unset, .unset, .unset] [(.int (1 : Int32))])) t → Steps p.tables e below (s₁.setTop (entryFrame m #[(.int p0), (.int p1), (.int p2), (.int p3)] maxLocals)) t := by
     intro t kt
     refine G255 _ ?_
     show Steps p.tables e below (T37.setTop (mkF m 64 #[iv p0, iv p1, iv p2, iv p3, iv c0, iv c1, iv c2, rv b6, rv b30, iv 1, iv 2, .unset, .unset, .unset, .unset, .unset] [])) _
     refine XS.iload X37.here hx rfl (hb hby at_64) rfl ?_
     exact kt
    have G357 : ∀ t, Steps p.tables e below (T37.setTop (mkF m 85 #[iv p0, iv p1, iv p2, iv p3, iv c0, iv c1, iv c2, rv b6, rv b30, iv 1, iv 2, iv 0, .unset, .unset, .unset, .unset] [(.int (1 : Int32)), (.int (1 : Int32))])) t → Steps p.tables e below (s₁.setTop (entryFrame m #[(.int p0), (.int p1), (.int p2), (.int p3)] maxLocals)) t := by
     intro t kt
     refine G356 _ ?_
     refine XS.ifYes X37.here hx rfl (pc0 := 66) (pc' := 79) rfl (hb hby at_66) rfl ((if0 _ _).trans (tlt (by decide)).2.2.1) (by decide) (by decide) ?_
     refine XS.iconst X37.here hx rfl (hb hby at_79) ?_
     refine XS.istore X37.here hx rfl (hb hby at_80) rfl (l' := #[iv p0, iv p1, iv p2, iv p3, iv c0, iv c1, iv c2, rv b6, rv b30, iv 1, iv 2, iv 0, .unset, .unset, .unset, .unset]) rfl ?_
     refine XS.iload X37.here hx rfl (hb hby at_82) rfl ?_
     refine XS.iconst X37.here hx rfl (hb hby at_84) ?_
     exact kt
    have G358 : ∀ t, Steps p.tables e below (T37.setTop (mkF m 91 #[iv p0, iv p1, iv p2, iv p3, iv c0, iv c1, iv c2, rv b6, rv b30, iv 1, iv 2, iv 0, .unset, .unset, .unset, .unset] [(.int (2 : Int32)), (.int (1 : Int32))])) t → Steps p.tables e below (s₁.setTop (entryFrame m #[(.int p0), (.int p1), (.int p2), (.int p3)] maxLocals)) t := by
     intro t kt
     refine G357 _ ?_
     refine XS.icmpNo X37.here hx rfl (hb hby at_85) rfl (flt (by decide)).2.2.1 ?_
     refine XS.iconst X37.here hx rfl (hb hby at_88) ?_
     refine XS.iload X37.here hx rfl (hb hby at_89) rfl ?_
     exact kt
    have G359 : ∀ t, Steps p.tables e below (T37.setTop (mkF m 104 #[iv p0, iv p1, iv p2, iv p3, iv c0, iv c1, iv c2, rv b6, rv b30, iv 1, iv 2, iv 0, iv 1, .unset, .unset, .unset] [(.int (2 : Int32)), (.int (1 : Int32))])) t → Steps p.tables e below (s₁.setTop (entryFrame m #[(.int p0), (.int p1), (.int p2), (.int p3)] maxLocals)) t := by
     intro t kt
     refine G358 _ ?_
     refine XS.icmpNo X37.here hx rfl (hb hby at_91) rfl (tlt (by decide)).2.1 ?_
     refine XS.iconst X37.here hx rfl (hb hby at_94) ?_
     refine XS.goto X37.here hx rfl (pc0 := 95) (pc' := 99) rfl (hb hby at_95) (by decide) (by decide) ?_
     refine XS.istore X37.here hx rfl (hb hby at_99) rfl (l' := #[iv p0, iv p1, iv p2, iv p3, iv c0, iv c1, iv c2, rv b6, rv b30, iv 1, iv 2, iv 0, iv 1, .unset, .unset, .unset]) rfl ?_
     refine XS.iload X37.here hx rfl (hb hby at_101) rfl ?_
     refine XS.iconst X37.here hx rfl (hb hby at_103) ?_
     exact kt
    have G360 : ∀ t, Steps p.tables e below (T37.setTop (mkF m 110 #[iv p0, iv p1, iv p2, iv p3, iv c0, iv c1, iv c2, rv b6, rv b30, iv 1, iv 2, iv 0, iv 1, .unset, .unset, .unset] [(.int (2 : Int32)), (.int (2 : Int32))])) t → Steps p.tables e below (s₁.setTop (entryFrame m #[(.int p0), (.int p1), (.int p2), (.int p3)] maxLocals)) t := by
     intro t kt
     refine G359 _ ?_
     refine XS.icmpNo X37.here hx rfl (hb hby at_104) rfl (flt (by decide)).2.2.1 ?_
     refine XS.iconst X37.here hx rfl (hb hby at_107) ?_
     refine XS.iload X37.here hx rfl (hb hby at_108) rfl ?_
     exact kt
    have G361 : ∀ t, Steps p.tables e below (T37.setTop (mkF m 124 #[iv p0, iv p1, iv p2, iv p3, iv c0, iv c1, iv c2, rv b6, rv b30, iv 1, iv 2, iv 0, iv 1, iv 0, .unset, .unset] [(.int (2 : Int32)), (.int (1 : Int32))])) t → Steps p.tables e below (s₁.setTop (entryFrame m #[(.int p0), (.int p1), (.int p2), (.int p3)] maxLocals)) t := by
     intro t kt
     refine G360 _ ?_
     refine XS.icmpYes X37.here hx rfl (pc0 := 110) (pc' := 117) rfl (hb hby at_110) rfl (flt (by decide)).2.1 (by decide) (by decide) ?_
     refine XS.iconst X37.here hx rfl (hb hby at_117) ?_
     refine XS.istore X37.here hx rfl (hb hby at_118) rfl (l' := #[iv p0, iv p1, iv p2, iv p3, iv c0, iv c1, iv c2, rv b6, rv b30, iv 1, iv 2, iv 0, iv 1, iv 0, .unset, .unset]) rfl ?_
     refine XS.iload X37.here hx rfl (hb hby at_120) rfl ?_
     refine XS.iload X37.here hx rfl (hb hby at_122) rfl ?_
     exact kt
    have G362 : ∀ t, Steps p.tables e below (T37.setTop (mkF m 129 #[iv p0, iv p1, iv p2, iv p3, iv c0, iv c1, iv c2, rv b6, rv b30, iv 1, iv 2, iv 0, iv 1, iv 0, .unset, .unset] [(.int (0 : Int32))])) t → Steps p.tables e below (s₁.setTop (entryFrame m #[(.int p0), (.int p1), (.int p2), (.int p3)] maxLocals)) t := by
     intro t kt
     refine G361 _ ?_
     refine XS.icmpNo X37.here hx rfl (hb hby at_124) rfl (tlt (by decide)).2.1 ?_
     refine XS.iload X37.here hx rfl (hb hby at_127) rfl ?_
     exact kt
    have G363 : ∀ t, Steps p.tables e below (T37.setTop (mkF m 142 #[iv p0, iv p1, iv p2, iv p3, iv c0, iv c1, iv c2, rv b6, rv b30, iv 1, iv 2, iv 0, iv 1, iv 0, .unset, .unset] [(.int (1 : Int32))])) t → Steps p.tables e below (s₁.setTop (entryFrame m #[(.int p0), (.int p1), (.int p2), (.int p3)] maxLocals)) t := by
     intro t kt
     refine G362 _ ?_
     refine XS.ifYes X37.here hx rfl (pc0 := 129) (pc' := 140) rfl (hb hby at_129) rfl ((if0 _ _).trans (teq (by decide)).1) (by decide) (by decide) ?_
     refine XS.iload X37.here hx rfl (hb hby at_140) rfl ?_
     exact kt
    obtain ⟨_, _, ⟨T364, L364, k364, n364⟩, -, X364, ⟨Lc364, hQ364, l364, y364, z364⟩, st364⟩ := Jvm.LawKit.callS X37 hx (y := (⟨"com/example/wary_bearer/warybearer/http/Http1ReaderIsTokenPinLaw", "isT", "(C)Z"⟩ : MethodName)) hown (mvT hZ (hw _ (List.mem_of_getElem? (i := 59) rfl))) (mvT hZ (hw _ (List.mem_of_getElem? (i := 60) rfl))) (mvT hZ (hw _ (List.mem_of_getElem? (i := 2) rfl))) (mvT hZ (hw _ (List.mem_of_getElem? (i := 61) rfl))) (by decide) (backOf (W := 0) (rm14 l Z a0 hw [] c1  T37.heap n0 z252 ) hZ (hw _ (List.mem_of_getElem? (i := 61) rfl)) (hw _ (List.mem_of_getElem? (i := 2) rfl)) (by decide) (by decide)) (g := (mkF m 147 #[iv p0, iv p1, iv p2, iv p3, iv c0, iv c1, iv c2, rv b6, rv b30, iv 1, iv 2, iv 0, iv 1, iv 0, .unset, .unset] [(.int c1)])) rfl (by rw [hml]; rfl) (argsL := [(.int c1)]) (rest := []) (lenOf pd_16 rfl) rfl (by show 2 * 0 + _ ≤ _; exact Nat.le_of_eq rfl) (hb hby at_147) (fun _ _ => ⟨rfl, rfl, (by decide : 4 + 0 ≤ _), (by decide : 16 + 0 ≤ _)⟩)
    dsimp only [Pt.U, Pt.locs, Pt.cells, Pt.slots] at X364 l364 y364 z364 st364 hQ364
    subst l364 y364 z364
    obtain ⟨rfl, N364q, eh364⟩ := hQ364
    have N364 := Fr.app N37 N364q
    have G365 : ∀ t, Steps p.tables e below (T364.setTop (mkF m 150 #[iv p0, iv p1, iv p2, iv p3, iv c0, iv c1, iv c2, rv b6, rv b30, iv 1, iv 2, iv 0, iv 1, iv 0, .unset, .unset] [(.int (fisT c1))])) t → Steps p.tables e below (s₁.setTop (entryFrame m #[(.int p0), (.int p1), (.int p2), (.int p3)] maxLocals)) t := by
     intro t kt
     refine G363 _ ?_
     refine XS.ifNo X37.here hx rfl (hb hby at_142) rfl ((if0 _ _).trans (feq (by decide)).1) ?_
     show Steps p.tables e below (T37.setTop (mkF m 145 #[iv p0, iv p1, iv p2, iv p3, iv c0, iv c1, iv c2, rv b6, rv b30, iv 1, iv 2, iv 0, iv 1, iv 0, .unset, .unset] [])) _
     refine XS.iload X37.here hx rfl (hb hby at_145) rfl ?_
     refine st364 _ ?_
     exact kt
    by_cases hc150_366 : (fisT c1) = (0 : Int32)
    ·skip
     obtain ⟨_, _, ⟨T367, L367, k367, n367⟩, -, X367, ⟨Lc367, hQ367, l367, y367, z367⟩, st367⟩ := Jvm.LawKit.callS X364 hx (y := (⟨"com/example/wary_bearer/warybearer/http/Http1Reader", "isToken", "(Ljava/lang/String;II)Z"⟩ : MethodName)) hown (mvT hZ (hw _ (List.mem_of_getElem? (i := 35) rfl))) (mvT hZ (hw _ (List.mem_of_getElem? (i := 36) rfl))) (mvT hZ (hw _ (List.mem_of_getElem? (i := 37) rfl))) (mvT hZ (hw _ (List.mem_of_getElem? (i := 38) rfl))) (by decide) (backOf (W := 0) (rmTokU12 l Z a0 hw [] b30 c0 c1 c2 ta37 kb37 tt ct cst fv T37.heap n0 z252 A37 Fc37 Fv37 V37 fa249 hb0 hb1 hb2 TS TA TS2 TV SS) hZ (hw _ (List.mem_of_getElem? (i := 38) rfl)) (hw _ (List.mem_of_getElem? (i := 37) rfl)) (by decide) (by decide)) (g := (mkF m 179 #[iv p0, iv p1, iv p2, iv p3, iv c0, iv c1, iv c2, rv b6, rv b30, iv 1, iv 2, iv 0, iv 1, iv 0, iv 0, .unset] [(.int (2 : Int32)), (.int (1 : Int32)), (.ref b30)])) rfl (by rw [hml]; rfl) (argsL := [(.ref b30), (.int (1 : Int32)), (.int (2 : Int32))]) (rest := []) (lenOf pd_15 rfl) rfl (by show 2 * 0 + _ ≤ _; exact Nat.le_of_eq rfl) (hb hby at_179) (fun _ _ => ⟨rfl, eh364, (by decide : 4 + 0 ≤ _), (by decide : 16 + 0 ≤ _)⟩)
     dsimp only [Pt.U, Pt.locs, Pt.cells, Pt.slots] at X367 l367 y367 z367 st367 hQ367
     subst l367 y367 z367
     obtain ⟨rfl, N367q, eh367⟩ := hQ367
     have N367 := Fr.app N364 N367q
     have G368 : ∀ t, Steps p.tables e below (T367.setTop (mkF m 188 #[iv p0, iv p1, iv p2, iv p3, iv c0, iv c1, iv c2, rv b6, rv b30, iv 1, iv 2, iv 0, iv 1, iv 0, iv 0, iv (own_tok [c1])] [(.int (0 : Int32)), (.int (own_tok [c1]))])) t → Steps p.tables e below (s₁.setTop (entryFrame m #[(.int p0), (.int p1), (.int p2), (.int p3)] maxLocals)) t := by
      intro t kt
      refine G365 _ ?_
      refine XS.ifYes X364.here hx rfl (pc0 := 150) (pc' := 170) rfl (hb hby at_150) rfl ((if0 _ _).trans (teq hc150_366).1) (by decide) (by decide) ?_
      refine XS.iconst X364.here hx rfl (hb hby at_170) ?_
      refine XS.istore X364.here hx rfl (hb hby at_171) rfl (l' := #[iv p0, iv p1, iv p2, iv p3, iv c0, iv c1, iv c2, rv b6, rv b30, iv 1, iv 2, iv 0, iv 1, iv 0, iv 0, .unset]) rfl ?_
      refine XS.aload X364.here hx rfl (hb hby at_173) rfl rfl ?_
      refine XS.iload X364.here hx rfl (hb hby at_175) rfl ?_
      refine XS.iload X364.here hx rfl (hb hby at_177) rfl ?_
      refine st367 _ ?_
      refine XS.istore X367.here hx rfl (hb hby at_182) rfl (l' := #[iv p0, iv p1, iv p2, iv p3, iv c0, iv c1, iv c2, rv b6, rv b30, iv 1, iv 2, iv 0, iv 1, iv 0, iv 0, iv (own_tok [c1])]) rfl ?_
      refine XS.iload X367.here hx rfl (hb hby at_184) rfl ?_
      refine XS.iload X367.here hx rfl (hb hby at_186) rfl ?_
      exact kt
     have hc188_369 : (own_tok [c1]) = (0 : Int32) := by rw [own_tok, if_pos hc150_366]
     obtain ⟨fs, hr, hrun, hended, hW, hsame⟩ := X367.leave (v := some (.int (1 : Int32))) (fun h => by rw [Bd.returns] at h; cases h)
     refine ⟨_, _, G368 _ ?_, hrun, hended, _, _, rfl, ?_, ⟨_, rfl⟩, hW, hsame.mono (by decide) (by decide)⟩
     ·skip
      refine XS.icmpNo X367.here hx rfl (hb hby at_188) rfl (teq hc188_369).2 ?_
      refine XS.iconst X367.here hx rfl (hb hby at_191) ?_
      refine XS.goto X367.here hx rfl (pc0 := 192) (pc' := 196) rfl (hb hby at_192) (by decide) (by decide) ?_
      exact retN X367 hx (t := .boolean) Bd.returns (by simp) (hb hby at_196) hr
     ·show Q0 Z p0 p1 p2 p3 tt ct cst fv h0 n0 _ T367.heap _
      rw [eh367]
      exact ⟨rfl, N367⟩
    ·skip
     have G370 : ∀ t, Steps p.tables e below (T364.setTop (mkF m 155 #[iv p0, iv p1, iv p2, iv p3, iv c0, iv c1, iv c2, rv b6, rv b30, iv 1, iv 2, iv 0, iv 1, iv 0, .unset, .unset] [(.int (0 : Int32))])) t → Steps p.tables e below (s₁.setTop (entryFrame m #[(.int p0), (.int p1), (.int p2), (.int p3)] maxLocals)) t := by
      intro t kt
      refine G365 _ ?_
      refine XS.ifNo X364.here hx rfl (hb hby at_150) rfl ((if0 _ _).trans (feq hc150_366).1) ?_
      refine XS.iload X364.here hx rfl (hb hby at_153) rfl ?_
      exact kt
     obtain ⟨_, _, ⟨T371, L371, k371, n371⟩, -, X371, ⟨Lc371, hQ371, l371, y371, z371⟩, st371⟩ := Jvm.LawKit.callS X364 hx (y := (⟨"com/example/wary_bearer/warybearer/http/Http1Reader", "isToken", "(Ljava/lang/String;II)Z"⟩ : MethodName)) hown (mvT hZ (hw _ (List.mem_of_getElem? (i := 35) rfl))) (mvT hZ (hw _ (List.mem_of_getElem? (i := 36) rfl))) (mvT hZ (hw _ (List.mem_of_getElem? (i := 37) rfl))) (mvT hZ (hw _ (List.mem_of_getElem? (i := 38) rfl))) (by decide) (backOf (W := 0) (rmTokU12 l Z a0 hw [] b30 c0 c1 c2 ta37 kb37 tt ct cst fv T37.heap n0 z252 A37 Fc37 Fv37 V37 fa249 hb0 hb1 hb2 TS TA TS2 TV SS) hZ (hw _ (List.mem_of_getElem? (i := 38) rfl)) (hw _ (List.mem_of_getElem? (i := 37) rfl)) (by decide) (by decide)) (g := (mkF m 179 #[iv p0, iv p1, iv p2, iv p3, iv c0, iv c1, iv c2, rv b6, rv b30, iv 1, iv 2, iv 0, iv 1, iv 0, iv 1, .unset] [(.int (2 : Int32)), (.int (1 : Int32)), (.ref b30)])) rfl (by rw [hml]; rfl) (argsL := [(.ref b30), (.int (1 : Int32)), (.int (2 : Int32))]) (rest := []) (lenOf pd_15 rfl) rfl (by show 2 * 0 + _ ≤ _; exact Nat.le_of_eq rfl) (hb hby at_179) (fun _ _ => ⟨rfl, eh364, (by decide : 4 + 0 ≤ _), (by decide : 16 + 0 ≤ _)⟩)
     dsimp only [Pt.U, Pt.locs, Pt.cells, Pt.slots] at X371 l371 y371 z371 st371 hQ371
     subst l371 y371 z371
     obtain ⟨rfl, N371q, eh371⟩ := hQ371
     have N371 := Fr.app N364 N371q
     have G372 : ∀ t, Steps p.tables e below (T371.setTop (mkF m 188 #[iv p0, iv p1, iv p2, iv p3, iv c0, iv c1, iv c2, rv b6, rv b30, iv 1, iv 2, iv 0, iv 1, iv 0, iv 1, iv (own_tok [c1])] [(.int (1 : Int32)), (.int (own_tok [c1]))])) t → Steps p.tables e below (s₁.setTop (entryFrame m #[(.int p0), (.int p1), (.int p2), (.int p3)] maxLocals)) t := by
      intro t kt
      refine G370 _ ?_
      refine XS.ifYes X364.here hx rfl (pc0 := 155) (pc' := 166) rfl (hb hby at_155) rfl ((if0 _ _).trans (teq (by decide)).1) (by decide) (by decide) ?_
      refine XS.iconst X364.here hx rfl (hb hby at_166) ?_
      refine XS.goto X364.here hx rfl (pc0 := 167) (pc' := 171) rfl (hb hby at_167) (by decide) (by decide) ?_
      refine XS.istore X364.here hx rfl (hb hby at_171) rfl (l' := #[iv p0, iv p1, iv p2, iv p3, iv c0, iv c1, iv c2, rv b6, rv b30, iv 1, iv 2, iv 0, iv 1, iv 0, iv 1, .unset]) rfl ?_
      refine XS.aload X364.here hx rfl (hb hby at_173) rfl rfl ?_
      refine XS.iload X364.here hx rfl (hb hby at_175) rfl ?_
      refine XS.iload X364.here hx rfl (hb hby at_177) rfl ?_
      refine st371 _ ?_
      refine XS.istore X371.here hx rfl (hb hby at_182) rfl (l' := #[iv p0, iv p1, iv p2, iv p3, iv c0, iv c1, iv c2, rv b6, rv b30, iv 1, iv 2, iv 0, iv 1, iv 0, iv 1, iv (own_tok [c1])]) rfl ?_
      refine XS.iload X371.here hx rfl (hb hby at_184) rfl ?_
      refine XS.iload X371.here hx rfl (hb hby at_186) rfl ?_
      exact kt
     have hc188_373 : (own_tok [c1]) = (1 : Int32) := by rw [own_tok, if_neg hc150_366, own_tok]
     obtain ⟨fs, hr, hrun, hended, hW, hsame⟩ := X371.leave (v := some (.int (1 : Int32))) (fun h => by rw [Bd.returns] at h; cases h)
     refine ⟨_, _, G372 _ ?_, hrun, hended, _, _, rfl, ?_, ⟨_, rfl⟩, hW, hsame.mono (by decide) (by decide)⟩
     ·skip
      refine XS.icmpNo X371.here hx rfl (hb hby at_188) rfl (teq hc188_373).2 ?_
      refine XS.iconst X371.here hx rfl (hb hby at_191) ?_
      refine XS.goto X371.here hx rfl (pc0 := 192) (pc' := 196) rfl (hb hby at_192) (by decide) (by decide) ?_
      exact retN X371 hx (t := .boolean) Bd.returns (by simp) (hb hby at_196) hr
     ·show Q0 Z p0 p1 p2 p3 tt ct cst fv h0 n0 _ T371.heap _
      rw [eh371]
      exact ⟨rfl, N371⟩
   ·skip
    have G374 : ∀ t, Steps p.tables e below (T37.setTop (mkF m 66 #[iv p0, iv p1, iv p2, iv p3, iv c0, iv c1, iv c2, rv b6, rv b30, iv 1, iv 3, .unset, .unset, .unset, .unset, .unset] [(.int (1 : Int32))])) t → Steps p.tables e below (s₁.setTop (entryFrame m #[(.int p0), (.int p1), (.int p2), (.int p3)] maxLocals)) t := by
     intro t kt
     refine G255 _ ?_
     show Steps p.tables e below (T37.setTop (mkF m 64 #[iv p0, iv p1, iv p2, iv p3, iv c0, iv c1, iv c2, rv b6, rv b30, iv 1, iv 3, .unset, .unset, .unset, .unset, .unset] [])) _
     refine XS.iload X37.here hx rfl (hb hby at_64) rfl ?_
     exact kt
    have G375 : ∀ t, Steps p.tables e below (T37.setTop (mkF m 85 #[iv p0, iv p1, iv p2, iv p3, iv c0, iv c1, iv c2, rv b6, rv b30, iv 1, iv 3, iv 0, .unset, .unset, .unset, .unset] [(.int (1 : Int32)), (.int (1 : Int32))])) t → Steps p.tables e below (s₁.setTop (entryFrame m #[(.int p0), (.int p1), (.int p2), (.int p3)] maxLocals)) t := by
     intro t kt
     refine G374 _ ?_
     refine XS.ifYes X37.here hx rfl (pc0 := 66) (pc' := 79) rfl (hb hby at_66) rfl ((if0 _ _).trans (tlt (by decide)).2.2.1) (by decide) (by decide) ?_
     refine XS.iconst X37.here hx rfl (hb hby at_79) ?_
     refine XS.istore X37.here hx rfl (hb hby at_80) rfl (l' := #[iv p0, iv p1, iv p2, iv p3, iv c0, iv c1, iv c2, rv b6, rv b30, iv 1, iv 3, iv 0, .unset, .unset, .unset, .unset]) rfl ?_
     refine XS.iload X37.here hx rfl (hb hby at_82) rfl ?_
     refine XS.iconst X37.here hx rfl (hb hby at_84) ?_
     exact kt
    have G376 : ∀ t, Steps p.tables e below (T37.setTop (mkF m 91 #[iv p0, iv p1, iv p2, iv p3, iv c0, iv c1, iv c2, rv b6, rv b30, iv 1, iv 3, iv 0, .unset, .unset, .unset, .unset] [(.int (3 : Int32)), (.int (1 : Int32))])) t → Steps p.tables e below (s₁.setTop (entryFrame m #[(.int p0), (.int p1), (.int p2), (.int p3)] maxLocals)) t := by
     intro t kt
     refine G375 _ ?_
     refine XS.icmpNo X37.here hx rfl (hb hby at_85) rfl (flt (by decide)).2.2.1 ?_
     refine XS.iconst X37.here hx rfl (hb hby at_88) ?_
     refine XS.iload X37.here hx rfl (hb hby at_89) rfl ?_
     exact kt
    have G377 : ∀ t, Steps p.tables e below (T37.setTop (mkF m 104 #[iv p0, iv p1, iv p2, iv p3, iv c0, iv c1, iv c2, rv b6, rv b30, iv 1, iv 3, iv 0, iv 1, .unset, .unset, .unset] [(.int (2 : Int32)), (.int (1 : Int32))])) t → Steps p.tables e below (s₁.setTop (entryFrame m #[(.int p0), (.int p1), (.int p2), (.int p3)] maxLocals)) t := by
     intro t kt
     refine G376 _ ?_
     refine XS.icmpNo X37.here hx rfl (hb hby at_91) rfl (tlt (by decide)).2.1 ?_
     refine XS.iconst X37.here hx rfl (hb hby at_94) ?_
     refine XS.goto X37.here hx rfl (pc0 := 95) (pc' := 99) rfl (hb hby at_95) (by decide) (by decide) ?_
     refine XS.istore X37.here hx rfl (hb hby at_99) rfl (l' := #[iv p0, iv p1, iv p2, iv p3, iv c0, iv c1, iv c2, rv b6, rv b30, iv 1, iv 3, iv 0, iv 1, .unset, .unset, .unset]) rfl ?_
     refine XS.iload X37.here hx rfl (hb hby at_101) rfl ?_
     refine XS.iconst X37.here hx rfl (hb hby at_103) ?_
     exact kt
    have G378 : ∀ t, Steps p.tables e below (T37.setTop (mkF m 110 #[iv p0, iv p1, iv p2, iv p3, iv c0, iv c1, iv c2, rv b6, rv b30, iv 1, iv 3, iv 0, iv 1, .unset, .unset, .unset] [(.int (3 : Int32)), (.int (2 : Int32))])) t → Steps p.tables e below (s₁.setTop (entryFrame m #[(.int p0), (.int p1), (.int p2), (.int p3)] maxLocals)) t := by
     intro t kt
     refine G377 _ ?_
     refine XS.icmpNo X37.here hx rfl (hb hby at_104) rfl (flt (by decide)).2.2.1 ?_
     refine XS.iconst X37.here hx rfl (hb hby at_107) ?_
     refine XS.iload X37.here hx rfl (hb hby at_108) rfl ?_
     exact kt
    have G379 : ∀ t, Steps p.tables e below (T37.setTop (mkF m 124 #[iv p0, iv p1, iv p2, iv p3, iv c0, iv c1, iv c2, rv b6, rv b30, iv 1, iv 3, iv 0, iv 1, iv 1, .unset, .unset] [(.int (3 : Int32)), (.int (1 : Int32))])) t → Steps p.tables e below (s₁.setTop (entryFrame m #[(.int p0), (.int p1), (.int p2), (.int p3)] maxLocals)) t := by
     intro t kt
     refine G378 _ ?_
     refine XS.icmpNo X37.here hx rfl (hb hby at_110) rfl (tlt (by decide)).2.1 ?_
     refine XS.iconst X37.here hx rfl (hb hby at_113) ?_
     refine XS.goto X37.here hx rfl (pc0 := 114) (pc' := 118) rfl (hb hby at_114) (by decide) (by decide) ?_
     refine XS.istore X37.here hx rfl (hb hby at_118) rfl (l' := #[iv p0, iv p1, iv p2, iv p3, iv c0, iv c1, iv c2, rv b6, rv b30, iv 1, iv 3, iv 0, iv 1, iv 1, .unset, .unset]) rfl ?_
     refine XS.iload X37.here hx rfl (hb hby at_120) rfl ?_
     refine XS.iload X37.here hx rfl (hb hby at_122) rfl ?_
     exact kt
    have G380 : ∀ t, Steps p.tables e below (T37.setTop (mkF m 129 #[iv p0, iv p1, iv p2, iv p3, iv c0, iv c1, iv c2, rv b6, rv b30, iv 1, iv 3, iv 0, iv 1, iv 1, .unset, .unset] [(.int (0 : Int32))])) t → Steps p.tables e below (s₁.setTop (entryFrame m #[(.int p0), (.int p1), (.int p2), (.int p3)] maxLocals)) t := by
     intro t kt
     refine G379 _ ?_
     refine XS.icmpNo X37.here hx rfl (hb hby at_124) rfl (tlt (by decide)).2.1 ?_
     refine XS.iload X37.here hx rfl (hb hby at_127) rfl ?_
     exact kt
    have G381 : ∀ t, Steps p.tables e below (T37.setTop (mkF m 142 #[iv p0, iv p1, iv p2, iv p3, iv c0, iv c1, iv c2, rv b6, rv b30, iv 1, iv 3, iv 0, iv 1, iv 1, .unset, .unset] [(.int (1 : Int32))])) t → Steps p.tables e below (s₁.setTop (entryFrame m #[(.int p0), (.int p1), (.int p2), (.int p3)] maxLocals)) t := by
     intro t kt
     refine G380 _ ?_
     refine XS.ifYes X37.here hx rfl (pc0 := 129) (pc' := 140) rfl (hb hby at_129) rfl ((if0 _ _).trans (teq (by decide)).1) (by decide) (by decide) ?_
     show Steps p.tables e below (T37.setTop (mkF m 140 #[iv p0, iv p1, iv p2, iv p3, iv c0, iv c1, iv c2, rv b6, rv b30, iv 1, iv 3, iv 0, iv 1, iv 1, .unset, .unset] [])) _
     refine XS.iload X37.here hx rfl (hb hby at_140) rfl ?_
     exact kt
    obtain ⟨_, _, ⟨T382, L382, k382, n382⟩, -, X382, ⟨Lc382, hQ382, l382, y382, z382⟩, st382⟩ := Jvm.LawKit.callS X37 hx (y := (⟨"com/example/wary_bearer/warybearer/http/Http1ReaderIsTokenPinLaw", "isT", "(C)Z"⟩ : MethodName)) hown (mvT hZ (hw _ (List.mem_of_getElem? (i := 59) rfl))) (mvT hZ (hw _ (List.mem_of_getElem? (i := 60) rfl))) (mvT hZ (hw _ (List.mem_of_getElem? (i := 2) rfl))) (mvT hZ (hw _ (List.mem_of_getElem? (i := 61) rfl))) (by decide) (backOf (W := 0) (rm14 l Z a0 hw [] c1  T37.heap n0 z252 ) hZ (hw _ (List.mem_of_getElem? (i := 61) rfl)) (hw _ (List.mem_of_getElem? (i := 2) rfl)) (by decide) (by decide)) (g := (mkF m 147 #[iv p0, iv p1, iv p2, iv p3, iv c0, iv c1, iv c2, rv b6, rv b30, iv 1, iv 3, iv 0, iv 1, iv 1, .unset, .unset] [(.int c1)])) rfl (by rw [hml]; rfl) (argsL := [(.int c1)]) (rest := []) (lenOf pd_16 rfl) rfl (by show 2 * 0 + _ ≤ _; exact Nat.le_of_eq rfl) (hb hby at_147) (fun _ _ => ⟨rfl, rfl, (by decide : 4 + 0 ≤ _), (by decide : 16 + 0 ≤ _)⟩)
    dsimp only [Pt.U, Pt.locs, Pt.cells, Pt.slots] at X382 l382 y382 z382 st382 hQ382
    subst l382 y382 z382
    obtain ⟨rfl, N382q, eh382⟩ := hQ382
    have N382 := Fr.app N37 N382q
    have G383 : ∀ t, Steps p.tables e below (T382.setTop (mkF m 150 #[iv p0, iv p1, iv p2, iv p3, iv c0, iv c1, iv c2, rv b6, rv b30, iv 1, iv 3, iv 0, iv 1, iv 1, .unset, .unset] [(.int (fisT c1))])) t → Steps p.tables e below (s₁.setTop (entryFrame m #[(.int p0), (.int p1), (.int p2), (.int p3)] maxLocals)) t := by
     intro t kt
     refine G381 _ ?_
     refine XS.ifNo X37.here hx rfl (hb hby at_142) rfl ((if0 _ _).trans (feq (by decide)).1) ?_
     refine XS.iload X37.here hx rfl (hb hby at_145) rfl ?_
     refine st382 _ ?_
     exact kt
    by_cases hc150_384 : (fisT c1) = (0 : Int32)
    ·skip
     obtain ⟨_, _, ⟨T385, L385, k385, n385⟩, -, X385, ⟨Lc385, hQ385, l385, y385, z385⟩, st385⟩ := Jvm.LawKit.callS X382 hx (y := (⟨"com/example/wary_bearer/warybearer/http/Http1Reader", "isToken", "(Ljava/lang/String;II)Z"⟩ : MethodName)) hown (mvT hZ (hw _ (List.mem_of_getElem? (i := 35) rfl))) (mvT hZ (hw _ (List.mem_of_getElem? (i := 36) rfl))) (mvT hZ (hw _ (List.mem_of_getElem? (i := 37) rfl))) (mvT hZ (hw _ (List.mem_of_getElem? (i := 38) rfl))) (by decide) (backOf (W := 0) (rmTokU13 l Z a0 hw [] b30 c0 c1 c2 ta37 kb37 tt ct cst fv T37.heap n0 z252 A37 Fc37 Fv37 V37 fa249 hb0 hb1 hb2 TS TA TS2 TV SS) hZ (hw _ (List.mem_of_getElem? (i := 38) rfl)) (hw _ (List.mem_of_getElem? (i := 37) rfl)) (by decide) (by decide)) (g := (mkF m 179 #[iv p0, iv p1, iv p2, iv p3, iv c0, iv c1, iv c2, rv b6, rv b30, iv 1, iv 3, iv 0, iv 1, iv 1, iv 0, .unset] [(.int (3 : Int32)), (.int (1 : Int32)), (.ref b30)])) rfl (by rw [hml]; rfl) (argsL := [(.ref b30), (.int (1 : Int32)), (.int (3 : Int32))]) (rest := []) (lenOf pd_15 rfl) rfl (by show 2 * 0 + _ ≤ _; exact Nat.le_of_eq rfl) (hb hby at_179) (fun _ _ => ⟨rfl, eh382, (by decide : 4 + 0 ≤ _), (by decide : 16 + 0 ≤ _)⟩)
     dsimp only [Pt.U, Pt.locs, Pt.cells, Pt.slots] at X385 l385 y385 z385 st385 hQ385
     subst l385 y385 z385
     obtain ⟨rfl, N385q, eh385⟩ := hQ385
     have N385 := Fr.app N382 N385q
     have G386 : ∀ t, Steps p.tables e below (T385.setTop (mkF m 188 #[iv p0, iv p1, iv p2, iv p3, iv c0, iv c1, iv c2, rv b6, rv b30, iv 1, iv 3, iv 0, iv 1, iv 1, iv 0, iv (own_tok [c1, c2])] [(.int (0 : Int32)), (.int (own_tok [c1, c2]))])) t → Steps p.tables e below (s₁.setTop (entryFrame m #[(.int p0), (.int p1), (.int p2), (.int p3)] maxLocals)) t := by
      intro t kt
      refine G383 _ ?_
      refine XS.ifYes X382.here hx rfl (pc0 := 150) (pc' := 170) rfl (hb hby at_150) rfl ((if0 _ _).trans (teq hc150_384).1) (by decide) (by decide) ?_
      refine XS.iconst X382.here hx rfl (hb hby at_170) ?_
      refine XS.istore X382.here hx rfl (hb hby at_171) rfl (l' := #[iv p0, iv p1, iv p2, iv p3, iv c0, iv c1, iv c2, rv b6, rv b30, iv 1, iv 3, iv 0, iv 1, iv 1, iv 0, .unset]) rfl ?_
      refine XS.aload X382.here hx rfl (hb hby at_173) rfl rfl ?_
      refine XS.iload X382.here hx rfl (hb hby at_175) rfl ?_
      refine XS.iload X382.here hx rfl (hb hby at_177) rfl ?_
      refine st385 _ ?_
      refine XS.istore X385.here hx rfl (hb hby at_182) rfl (l' := #[iv p0, iv p1, iv p2, iv p3, iv c0, iv c1, iv c2, rv b6, rv b30, iv 1, iv 3, iv 0, iv 1, iv 1, iv 0, iv (own_tok [c1, c2])]) rfl ?_
      refine XS.iload X385.here hx rfl (hb hby at_184) rfl ?_
      refine XS.iload X385.here hx rfl (hb hby at_186) rfl ?_
      exact kt
     have hc188_387 : (own_tok [c1, c2]) = (0 : Int32) := by rw [own_tok, if_pos hc150_384]
     obtain ⟨fs, hr, hrun, hended, hW, hsame⟩ := X385.leave (v := some (.int (1 : Int32))) (fun h => by rw [Bd.returns] at h; cases h)
     refine ⟨_, _, G386 _ ?_, hrun, hended, _, _, rfl, ?_, ⟨_, rfl⟩, hW, hsame.mono (by decide) (by decide)⟩
     ·skip
      refine XS.icmpNo X385.here hx rfl (hb hby at_188) rfl (teq hc188_387).2 ?_
      refine XS.iconst X385.here hx rfl (hb hby at_191) ?_
      refine XS.goto X385.here hx rfl (pc0 := 192) (pc' := 196) rfl (hb hby at_192) (by decide) (by decide) ?_
      exact retN X385 hx (t := .boolean) Bd.returns (by simp) (hb hby at_196) hr
     ·show Q0 Z p0 p1 p2 p3 tt ct cst fv h0 n0 _ T385.heap _
      rw [eh385]
      exact ⟨rfl, N385⟩
    ·skip
     have G388 : ∀ t, Steps p.tables e below (T382.setTop (mkF m 155 #[iv p0, iv p1, iv p2, iv p3, iv c0, iv c1, iv c2, rv b6, rv b30, iv 1, iv 3, iv 0, iv 1, iv 1, .unset, .unset] [(.int (1 : Int32))])) t → Steps p.tables e below (s₁.setTop (entryFrame m #[(.int p0), (.int p1), (.int p2), (.int p3)] maxLocals)) t := by
      intro t kt
      refine G383 _ ?_
      refine XS.ifNo X382.here hx rfl (hb hby at_150) rfl ((if0 _ _).trans (feq hc150_384).1) ?_
      refine XS.iload X382.here hx rfl (hb hby at_153) rfl ?_
      exact kt
     obtain ⟨_, _, ⟨T389, L389, k389, n389⟩, -, X389, ⟨Lc389, hQ389, l389, y389, z389⟩, st389⟩ := Jvm.LawKit.callS X382 hx (y := (⟨"com/example/wary_bearer/warybearer/http/Http1ReaderIsTokenPinLaw", "isT", "(C)Z"⟩ : MethodName)) hown (mvT hZ (hw _ (List.mem_of_getElem? (i := 59) rfl))) (mvT hZ (hw _ (List.mem_of_getElem? (i := 60) rfl))) (mvT hZ (hw _ (List.mem_of_getElem? (i := 2) rfl))) (mvT hZ (hw _ (List.mem_of_getElem? (i := 61) rfl))) (by decide) (backOf (W := 0) (rm14 l Z a0 hw [] c2  T37.heap n0 z252 ) hZ (hw _ (List.mem_of_getElem? (i := 61) rfl)) (hw _ (List.mem_of_getElem? (i := 2) rfl)) (by decide) (by decide)) (g := (mkF m 160 #[iv p0, iv p1, iv p2, iv p3, iv c0, iv c1, iv c2, rv b6, rv b30, iv 1, iv 3, iv 0, iv 1, iv 1, .unset, .unset] [(.int c2)])) rfl (by rw [hml]; rfl) (argsL := [(.int c2)]) (rest := []) (lenOf pd_16 rfl) rfl (by show 2 * 0 + _ ≤ _; exact Nat.le_of_eq rfl) (hb hby at_160) (fun _ _ => ⟨rfl, eh382, (by decide : 4 + 0 ≤ _), (by decide : 16 + 0 ≤ _)⟩)
     dsimp only [Pt.U, Pt.locs, Pt.cells, Pt.slots] at X389 l389 y389 z389 st389 hQ389
     subst l389 y389 z389
     obtain ⟨rfl, N389q, eh389⟩ := hQ389
     have N389 := Fr.app N382 N389q
     have G390 : ∀ t, Steps p.tables e below (T389.setTop (mkF m 163 #[iv p0, iv p1, iv p2, iv p3, iv c0, iv c1, iv c2, rv b6, rv b30, iv 1, iv 3, iv 0, iv 1, iv 1, .unset, .unset] [(.int (fisT c2))])) t → Steps p.tables e below (s₁.setTop (entryFrame m #[(.int p0), (.int p1), (.int p2), (.int p3)] maxLocals)) t := by
      intro t kt
      refine G388 _ ?_
      refine XS.ifNo X382.here hx rfl (hb hby at_155) rfl ((if0 _ _).trans (feq (by decide)).1) ?_
      refine XS.iload X382.here hx rfl (hb hby at_158) rfl ?_
      refine st389 _ ?_
      exact kt
     by_cases hc163_391 : (fisT c2) = (0 : Int32)
     ·skip
      obtain ⟨_, _, ⟨T392, L392, k392, n392⟩, -, X392, ⟨Lc392, hQ392, l392, y392, z392⟩, st392⟩ := Jvm.LawKit.callS X389 hx (y := (⟨"com/example/wary_bearer/warybearer/http/Http1Reader", "isToken", "(Ljava/lang/String;II)Z"⟩ : MethodName)) hown (mvT hZ (hw _ (List.mem_of_getElem? (i := 35) rfl))) (mvT hZ (hw _ (List.mem_of_getElem? (i := 36) rfl))) (mvT hZ (hw _ (List.mem_of_getElem? (i := 37) rfl))) (mvT hZ (hw _ (List.mem_of_getElem? (i := 38) rfl))) (by decide) (backOf (W := 0) (rmTokU13 l Z a0 hw [] b30 c0 c1 c2 ta37 kb37 tt ct cst fv T37.heap n0 z252 A37 Fc37 Fv37 V37 fa249 hb0 hb1 hb2 TS TA TS2 TV SS) hZ (hw _ (List.mem_of_getElem? (i := 38) rfl)) (hw _ (List.mem_of_getElem? (i := 37) rfl)) (by decide) (by decide)) (g := (mkF m 179 #[iv p0, iv p1, iv p2, iv p3, iv c0, iv c1, iv c2, rv b6, rv b30, iv 1, iv 3, iv 0, iv 1, iv 1, iv 0, .unset] [(.int (3 : Int32)), (.int (1 : Int32)), (.ref b30)])) rfl (by rw [hml]; rfl) (argsL := [(.ref b30), (.int (1 : Int32)), (.int (3 : Int32))]) (rest := []) (lenOf pd_15 rfl) rfl (by show 2 * 0 + _ ≤ _; exact Nat.le_of_eq rfl) (hb hby at_179) (fun _ _ => ⟨rfl, eh389, (by decide : 4 + 0 ≤ _), (by decide : 16 + 0 ≤ _)⟩)
      dsimp only [Pt.U, Pt.locs, Pt.cells, Pt.slots] at X392 l392 y392 z392 st392 hQ392
      subst l392 y392 z392
      obtain ⟨rfl, N392q, eh392⟩ := hQ392
      have N392 := Fr.app N389 N392q
      have G393 : ∀ t, Steps p.tables e below (T392.setTop (mkF m 188 #[iv p0, iv p1, iv p2, iv p3, iv c0, iv c1, iv c2, rv b6, rv b30, iv 1, iv 3, iv 0, iv 1, iv 1, iv 0, iv (own_tok [c1, c2])] [(.int (0 : Int32)), (.int (own_tok [c1, c2]))])) t → Steps p.tables e below (s₁.setTop (entryFrame m #[(.int p0), (.int p1), (.int p2), (.int p3)] maxLocals)) t := by
       intro t kt
       refine G390 _ ?_
       refine XS.ifYes X389.here hx rfl (pc0 := 163) (pc' := 170) rfl (hb hby at_163) rfl ((if0 _ _).trans (teq hc163_391).1) (by decide) (by decide) ?_
       refine XS.iconst X389.here hx rfl (hb hby at_170) ?_
       refine XS.istore X389.here hx rfl (hb hby at_171) rfl (l' := #[iv p0, iv p1, iv p2, iv p3, iv c0, iv c1, iv c2, rv b6, rv b30, iv 1, iv 3, iv 0, iv 1, iv 1, iv 0, .unset]) rfl ?_
       refine XS.aload X389.here hx rfl (hb hby at_173) rfl rfl ?_
       refine XS.iload X389.here hx rfl (hb hby at_175) rfl ?_
       refine XS.iload X389.here hx rfl (hb hby at_177) rfl ?_
       refine st392 _ ?_
       refine XS.istore X392.here hx rfl (hb hby at_182) rfl (l' := #[iv p0, iv p1, iv p2, iv p3, iv c0, iv c1, iv c2, rv b6, rv b30, iv 1, iv 3, iv 0, iv 1, iv 1, iv 0, iv (own_tok [c1, c2])]) rfl ?_
       refine XS.iload X392.here hx rfl (hb hby at_184) rfl ?_
       refine XS.iload X392.here hx rfl (hb hby at_186) rfl ?_
       exact kt
      have hc188_394 : (own_tok [c1, c2]) = (0 : Int32) := by rw [own_tok, if_neg hc150_384, own_tok, if_pos hc163_391]
      obtain ⟨fs, hr, hrun, hended, hW, hsame⟩ := X392.leave (v := some (.int (1 : Int32))) (fun h => by rw [Bd.returns] at h; cases h)
      refine ⟨_, _, G393 _ ?_, hrun, hended, _, _, rfl, ?_, ⟨_, rfl⟩, hW, hsame.mono (by decide) (by decide)⟩
      ·skip
       refine XS.icmpNo X392.here hx rfl (hb hby at_188) rfl (teq hc188_394).2 ?_
       refine XS.iconst X392.here hx rfl (hb hby at_191) ?_
       refine XS.goto X392.here hx rfl (pc0 := 192) (pc' := 196) rfl (hb hby at_192) (by decide) (by decide) ?_
       exact retN X392 hx (t := .boolean) Bd.returns (by simp) (hb hby at_196) hr
      ·show Q0 Z p0 p1 p2 p3 tt ct cst fv h0 n0 _ T392.heap _
       rw [eh392]
       exact ⟨rfl, N392⟩
     ·skip
      obtain ⟨_, _, ⟨T395, L395, k395, n395⟩, -, X395, ⟨Lc395, hQ395, l395, y395, z395⟩, st395⟩ := Jvm.LawKit.callS X389 hx (y := (⟨"com/example/wary_bearer/warybearer/http/Http1Reader", "isToken", "(Ljava/lang/String;II)Z"⟩ : MethodName)) hown (mvT hZ (hw _ (List.mem_of_getElem? (i := 35) rfl))) (mvT hZ (hw _ (List.mem_of_getElem? (i := 36) rfl))) (mvT hZ (hw _ (List.mem_of_getElem? (i := 37) rfl))) (mvT hZ (hw _ (List.mem_of_getElem? (i := 38) rfl))) (by decide) (backOf (W := 0) (rmTokU13 l Z a0 hw [] b30 c0 c1 c2 ta37 kb37 tt ct cst fv T37.heap n0 z252 A37 Fc37 Fv37 V37 fa249 hb0 hb1 hb2 TS TA TS2 TV SS) hZ (hw _ (List.mem_of_getElem? (i := 38) rfl)) (hw _ (List.mem_of_getElem? (i := 37) rfl)) (by decide) (by decide)) (g := (mkF m 179 #[iv p0, iv p1, iv p2, iv p3, iv c0, iv c1, iv c2, rv b6, rv b30, iv 1, iv 3, iv 0, iv 1, iv 1, iv 1, .unset] [(.int (3 : Int32)), (.int (1 : Int32)), (.ref b30)])) rfl (by rw [hml]; rfl) (argsL := [(.ref b30), (.int (1 : Int32)), (.int (3 : Int32))]) (rest := []) (lenOf pd_15 rfl) rfl (by show 2 * 0 + _ ≤ _; exact Nat.le_of_eq rfl) (hb hby at_179) (fun _ _ => ⟨rfl, eh389, (by decide : 4 + 0 ≤ _), (by decide : 16 + 0 ≤ _)⟩)
      dsimp only [Pt.U, Pt.locs, Pt.cells, Pt.slots] at X395 l395 y395 z395 st395 hQ395
      subst l395 y395 z395
      obtain ⟨rfl, N395q, eh395⟩ := hQ395
      have N395 := Fr.app N389 N395q
      have G396 : ∀ t, Steps p.tables e below (T395.setTop (mkF m 188 #[iv p0, iv p1, iv p2, iv p3, iv c0, iv c1, iv c2, rv b6, rv b30, iv 1, iv 3, iv 0, iv 1, iv 1, iv 1, iv (own_tok [c1, c2])] [(.int (1 : Int32)), (.int (own_tok [c1, c2]))])) t → Steps p.tables e below (s₁.setTop (entryFrame m #[(.int p0), (.int p1), (.int p2), (.int p3)] maxLocals)) t := by
       intro t kt
       refine G390 _ ?_
       refine XS.ifNo X389.here hx rfl (hb hby at_163) rfl ((if0 _ _).trans (feq hc163_391).1) ?_
       refine XS.iconst X389.here hx rfl (hb hby at_166) ?_
       refine XS.goto X389.here hx rfl (pc0 := 167) (pc' := 171) rfl (hb hby at_167) (by decide) (by decide) ?_
       refine XS.istore X389.here hx rfl (hb hby at_171) rfl (l' := #[iv p0, iv p1, iv p2, iv p3, iv c0, iv c1, iv c2, rv b6, rv b30, iv 1, iv 3, iv 0, iv 1, iv 1, iv 1, .unset]) rfl ?_
       refine XS.aload X389.here hx rfl (hb hby at_173) rfl rfl ?_
       refine XS.iload X389.here hx rfl (hb hby at_175) rfl ?_
       refine XS.iload X389.here hx rfl (hb hby at_177) rfl ?_
       refine st395 _ ?_
       refine XS.istore X395.here hx rfl (hb hby at_182) rfl (l' := #[iv p0, iv p1, iv p2, iv p3, iv c0, iv c1, iv c2, rv b6, rv b30, iv 1, iv 3, iv 0, iv 1, iv 1, iv 1, iv (own_tok [c1, c2])]) rfl ?_
       refine XS.iload X395.here hx rfl (hb hby at_184) rfl ?_
       refine XS.iload X395.here hx rfl (hb hby at_186) rfl ?_
       exact kt
      have hc188_397 : (own_tok [c1, c2]) = (1 : Int32) := by rw [own_tok, if_neg hc150_384, own_tok, if_neg hc163_391, own_tok]
      obtain ⟨fs, hr, hrun, hended, hW, hsame⟩ := X395.leave (v := some (.int (1 : Int32))) (fun h => by rw [Bd.returns] at h; cases h)
      refine ⟨_, _, G396 _ ?_, hrun, hended, _, _, rfl, ?_, ⟨_, rfl⟩, hW, hsame.mono (by decide) (by decide)⟩
      ·skip
       refine XS.icmpNo X395.here hx rfl (hb hby at_188) rfl (teq hc188_397).2 ?_
       refine XS.iconst X395.here hx rfl (hb hby at_191) ?_
       refine XS.goto X395.here hx rfl (pc0 := 192) (pc' := 196) rfl (hb hby at_192) (by decide) (by decide) ?_
       exact retN X395 hx (t := .boolean) Bd.returns (by simp) (hb hby at_196) hr
      ·show Q0 Z p0 p1 p2 p3 tt ct cst fv h0 n0 _ T395.heap _
       rw [eh395]
       exact ⟨rfl, N395⟩
  ·rcases own_at4 hto4 with rfl | rfl | rfl | rfl
   ·skip
    have G398 : ∀ t, Steps p.tables e below (T37.setTop (mkF m 66 #[iv p0, iv p1, iv p2, iv p3, iv c0, iv c1, iv c2, rv b6, rv b30, iv 2, iv 0, .unset, .unset, .unset, .unset, .unset] [(.int (2 : Int32))])) t → Steps p.tables e below (s₁.setTop (entryFrame m #[(.int p0), (.int p1), (.int p2), (.int p3)] maxLocals)) t := by
     intro t kt
     refine G255 _ ?_
     show Steps p.tables e below (T37.setTop (mkF m 64 #[iv p0, iv p1, iv p2, iv p3, iv c0, iv c1, iv c2, rv b6, rv b30, iv 2, iv 0, .unset, .unset, .unset, .unset, .unset] [])) _
     refine XS.iload X37.here hx rfl (hb hby at_64) rfl ?_
     exact kt
    have G399 : ∀ t, Steps p.tables e below (T37.setTop (mkF m 85 #[iv p0, iv p1, iv p2, iv p3, iv c0, iv c1, iv c2, rv b6, rv b30, iv 2, iv 0, iv 0, .unset, .unset, .unset, .unset] [(.int (1 : Int32)), (.int (2 : Int32))])) t → Steps p.tables e below (s₁.setTop (entryFrame m #[(.int p0), (.int p1), (.int p2), (.int p3)] maxLocals)) t := by
     intro t kt
     refine G398 _ ?_
     refine XS.ifYes X37.here hx rfl (pc0 := 66) (pc' := 79) rfl (hb hby at_66) rfl ((if0 _ _).trans (tlt (by decide)).2.2.1) (by decide) (by decide) ?_
     refine XS.iconst X37.here hx rfl (hb hby at_79) ?_
     refine XS.istore X37.here hx rfl (hb hby at_80) rfl (l' := #[iv p0, iv p1, iv p2, iv p3, iv c0, iv c1, iv c2, rv b6, rv b30, iv 2, iv 0, iv 0, .unset, .unset, .unset, .unset]) rfl ?_
     refine XS.iload X37.here hx rfl (hb hby at_82) rfl ?_
     refine XS.iconst X37.here hx rfl (hb hby at_84) ?_
     exact kt
    have G400 : ∀ t, Steps p.tables e below (T37.setTop (mkF m 104 #[iv p0, iv p1, iv p2, iv p3, iv c0, iv c1, iv c2, rv b6, rv b30, iv 2, iv 0, iv 0, iv 0, .unset, .unset, .unset] [(.int (2 : Int32)), (.int (2 : Int32))])) t → Steps p.tables e below (s₁.setTop (entryFrame m #[(.int p0), (.int p1), (.int p2), (.int p3)] maxLocals)) t := by
     intro t kt
     refine G399 _ ?_
     refine XS.icmpYes X37.here hx rfl (pc0 := 85) (pc' := 98) rfl (hb hby at_85) rfl (tlt (by decide)).2.2.1 (by decide) (by decide) ?_
     refine XS.iconst X37.here hx rfl (hb hby at_98) ?_
     refine XS.istore X37.here hx rfl (hb hby at_99) rfl (l' := #[iv p0, iv p1, iv p2, iv p3, iv c0, iv c1, iv c2, rv b6, rv b30, iv 2, iv 0, iv 0, iv 0, .unset, .unset, .unset]) rfl ?_
     refine XS.iload X37.here hx rfl (hb hby at_101) rfl ?_
     refine XS.iconst X37.here hx rfl (hb hby at_103) ?_
     exact kt
    have G401 : ∀ t, Steps p.tables e below (T37.setTop (mkF m 110 #[iv p0, iv p1, iv p2, iv p3, iv c0, iv c1, iv c2, rv b6, rv b30, iv 2, iv 0, iv 0, iv 0, .unset, .unset, .unset] [(.int (0 : Int32)), (.int (2 : Int32))])) t → Steps p.tables e below (s₁.setTop (entryFrame m #[(.int p0), (.int p1), (.int p2), (.int p3)] maxLocals)) t := by
     intro t kt
     refine G400 _ ?_
     refine XS.icmpNo X37.here hx rfl (hb hby at_104) rfl (flt (by decide)).2.2.1 ?_
     refine XS.iconst X37.here hx rfl (hb hby at_107) ?_
     refine XS.iload X37.here hx rfl (hb hby at_108) rfl ?_
     exact kt
    have G402 : ∀ t, Steps p.tables e below (T37.setTop (mkF m 124 #[iv p0, iv p1, iv p2, iv p3, iv c0, iv c1, iv c2, rv b6, rv b30, iv 2, iv 0, iv 0, iv 0, iv 0, .unset, .unset] [(.int (0 : Int32)), (.int (2 : Int32))])) t → Steps p.tables e below (s₁.setTop (entryFrame m #[(.int p0), (.int p1), (.int p2), (.int p3)] maxLocals)) t := by
     intro t kt
     refine G401 _ ?_
     refine XS.icmpYes X37.here hx rfl (pc0 := 110) (pc' := 117) rfl (hb hby at_110) rfl (flt (by decide)).2.1 (by decide) (by decide) ?_
     refine XS.iconst X37.here hx rfl (hb hby at_117) ?_
     refine XS.istore X37.here hx rfl (hb hby at_118) rfl (l' := #[iv p0, iv p1, iv p2, iv p3, iv c0, iv c1, iv c2, rv b6, rv b30, iv 2, iv 0, iv 0, iv 0, iv 0, .unset, .unset]) rfl ?_
     refine XS.iload X37.here hx rfl (hb hby at_120) rfl ?_
     refine XS.iload X37.here hx rfl (hb hby at_122) rfl ?_
     exact kt
    obtain ⟨_, _, ⟨T403, L403, k403, n403⟩, -, X403, ⟨Lc403, hQ403, l403, y403, z403⟩, st403⟩ := Jvm.LawKit.callS X37 hx (y := (⟨"com/example/wary_bearer/warybearer/http/Http1Reader", "isToken", "(Ljava/lang/String;II)Z"⟩ : MethodName)) hown (mvT hZ (hw _ (List.mem_of_getElem? (i := 35) rfl))) (mvT hZ (hw _ (List.mem_of_getElem? (i := 36) rfl))) (mvT hZ (hw _ (List.mem_of_getElem? (i := 37) rfl))) (mvT hZ (hw _ (List.mem_of_getElem? (i := 38) rfl))) (by decide) (backOf (W := 0) (rmTok0 l Z a0 hw [] b30 (2 : Int32) (0 : Int32) T37.heap n0 z252 (by decide)) hZ (hw _ (List.mem_of_getElem? (i := 38) rfl)) (hw _ (List.mem_of_getElem? (i := 37) rfl)) (by decide) (by decide)) (g := (mkF m 179 #[iv p0, iv p1, iv p2, iv p3, iv c0, iv c1, iv c2, rv b6, rv b30, iv 2, iv 0, iv 0, iv 0, iv 0, iv 0, .unset] [(.int (0 : Int32)), (.int (2 : Int32)), (.ref b30)])) rfl (by rw [hml]; rfl) (argsL := [(.ref b30), (.int (2 : Int32)), (.int (0 : Int32))]) (rest := []) (lenOf pd_15 rfl) rfl (by show 2 * 0 + _ ≤ _; exact Nat.le_of_eq rfl) (hb hby at_179) (fun _ _ => ⟨rfl, rfl, (by decide : 4 + 0 ≤ _), (by decide : 16 + 0 ≤ _)⟩)
    dsimp only [Pt.U, Pt.locs, Pt.cells, Pt.slots] at X403 l403 y403 z403 st403 hQ403
    subst l403 y403 z403
    obtain ⟨rfl, N403q, eh403⟩ := hQ403
    have N403 := Fr.app N37 N403q
    have G404 : ∀ t, Steps p.tables e below (T403.setTop (mkF m 188 #[iv p0, iv p1, iv p2, iv p3, iv c0, iv c1, iv c2, rv b6, rv b30, iv 2, iv 0, iv 0, iv 0, iv 0, iv 0, iv 0] [(.int (0 : Int32)), (.int (0 : Int32))])) t → Steps p.tables e below (s₁.setTop (entryFrame m #[(.int p0), (.int p1), (.int p2), (.int p3)] maxLocals)) t := by
     intro t kt
     refine G402 _ ?_
     refine XS.icmpYes X37.here hx rfl (pc0 := 124) (pc' := 170) rfl (hb hby at_124) rfl (flt (by decide)).2.1 (by decide) (by decide) ?_
     refine XS.iconst X37.here hx rfl (hb hby at_170) ?_
     refine XS.istore X37.here hx rfl (hb hby at_171) rfl (l' := #[iv p0, iv p1, iv p2, iv p3, iv c0, iv c1, iv c2, rv b6, rv b30, iv 2, iv 0, iv 0, iv 0, iv 0, iv 0, .unset]) rfl ?_
     refine XS.aload X37.here hx rfl (hb hby at_173) rfl rfl ?_
     refine XS.iload X37.here hx rfl (hb hby at_175) rfl ?_
     refine XS.iload X37.here hx rfl (hb hby at_177) rfl ?_
     show Steps p.tables e below (T37.setTop (mkF m 179 #[iv p0, iv p1, iv p2, iv p3, iv c0, iv c1, iv c2, rv b6, rv b30, iv 2, iv 0, iv 0, iv 0, iv 0, iv 0, .unset] [(.int (0 : Int32)), (.int (2 : Int32)), (.ref b30)])) _
     refine st403 _ ?_
     refine XS.istore X403.here hx rfl (hb hby at_182) rfl (l' := #[iv p0, iv p1, iv p2, iv p3, iv c0, iv c1, iv c2, rv b6, rv b30, iv 2, iv 0, iv 0, iv 0, iv 0, iv 0, iv 0]) rfl ?_
     refine XS.iload X403.here hx rfl (hb hby at_184) rfl ?_
     refine XS.iload X403.here hx rfl (hb hby at_186) rfl ?_
     exact kt
    obtain ⟨fs, hr, hrun, hended, hW, hsame⟩ := X403.leave (v := some (.int (1 : Int32))) (fun h => by rw [Bd.returns] at h; cases h)
    refine ⟨_, _, G404 _ ?_, hrun, hended, _, _, rfl, ?_, ⟨_, rfl⟩, hW, hsame.mono (by decide) (by decide)⟩
    ·skip
     refine XS.icmpNo X403.here hx rfl (hb hby at_188) rfl (teq (by decide)).2 ?_
     refine XS.iconst X403.here hx rfl (hb hby at_191) ?_
     refine XS.goto X403.here hx rfl (pc0 := 192) (pc' := 196) rfl (hb hby at_192) (by decide) (by decide) ?_
     exact retN X403 hx (t := .boolean) Bd.returns (by simp) (hb hby at_196) hr
    ·show Q0 Z p0 p1 p2 p3 tt ct cst fv h0 n0 _ T403.heap _
     rw [eh403]
     exact ⟨rfl, N403⟩
   ·skip
    have G405 : ∀ t, Steps p.tables e below (T37.setTop (mkF m 66 #[iv p0, iv p1, iv p2, iv p3, iv c0, iv c1, iv c2, rv b6, rv b30, iv 2, iv 1, .unset, .unset, .unset, .unset, .unset] [(.int (2 : Int32))])) t → Steps p.tables e below (s₁.setTop (entryFrame m #[(.int p0), (.int p1), (.int p2), (.int p3)] maxLocals)) t := by
     intro t kt
     refine G255 _ ?_
     show Steps p.tables e below (T37.setTop (mkF m 64 #[iv p0, iv p1, iv p2, iv p3, iv c0, iv c1, iv c2, rv b6, rv b30, iv 2, iv 1, .unset, .unset, .unset, .unset, .unset] [])) _
     refine XS.iload X37.here hx rfl (hb hby at_64) rfl ?_
     exact kt
    have G406 : ∀ t, Steps p.tables e below (T37.setTop (mkF m 85 #[iv p0, iv p1, iv p2, iv p3, iv c0, iv c1, iv c2, rv b6, rv b30, iv 2, iv 1, iv 0, .unset, .unset, .unset, .unset] [(.int (1 : Int32)), (.int (2 : Int32))])) t → Steps p.tables e below (s₁.setTop (entryFrame m #[(.int p0), (.int p1), (.int p2), (.int p3)] maxLocals)) t := by
     intro t kt
     refine G405 _ ?_
     refine XS.ifYes X37.here hx rfl (pc0 := 66) (pc' := 79) rfl (hb hby at_66) rfl ((if0 _ _).trans (tlt (by decide)).2.2.1) (by decide) (by decide) ?_
     refine XS.iconst X37.here hx rfl (hb hby at_79) ?_
     refine XS.istore X37.here hx rfl (hb hby at_80) rfl (l' := #[iv p0, iv p1, iv p2, iv p3, iv c0, iv c1, iv c2, rv b6, rv b30, iv 2, iv 1, iv 0, .unset, .unset, .unset, .unset]) rfl ?_
     refine XS.iload X37.here hx rfl (hb hby at_82) rfl ?_
     refine XS.iconst X37.here hx rfl (hb hby at_84) ?_
     exact kt
    have G407 : ∀ t, Steps p.tables e below (T37.setTop (mkF m 104 #[iv p0, iv p1, iv p2, iv p3, iv c0, iv c1, iv c2, rv b6, rv b30, iv 2, iv 1, iv 0, iv 0, .unset, .unset, .unset] [(.int (2 : Int32)), (.int (2 : Int32))])) t → Steps p.tables e below (s₁.setTop (entryFrame m #[(.int p0), (.int p1), (.int p2), (.int p3)] maxLocals)) t := by
     intro t kt
     refine G406 _ ?_
     refine XS.icmpYes X37.here hx rfl (pc0 := 85) (pc' := 98) rfl (hb hby at_85) rfl (tlt (by decide)).2.2.1 (by decide) (by decide) ?_
     refine XS.iconst X37.here hx rfl (hb hby at_98) ?_
     refine XS.istore X37.here hx rfl (hb hby at_99) rfl (l' := #[iv p0, iv p1, iv p2, iv p3, iv c0, iv c1, iv c2, rv b6, rv b30, iv 2, iv 1, iv 0, iv 0, .unset, .unset, .unset]) rfl ?_
     refine XS.iload X37.here hx rfl (hb hby at_101) rfl ?_
     refine XS.iconst X37.here hx rfl (hb hby at_103) ?_
     exact kt
    have G408 : ∀ t, Steps p.tables e below (T37.setTop (mkF m 110 #[iv p0, iv p1, iv p2, iv p3, iv c0, iv c1, iv c2, rv b6, rv b30, iv 2, iv 1, iv 0, iv 0, .unset, .unset, .unset] [(.int (1 : Int32)), (.int (2 : Int32))])) t → Steps p.tables e below (s₁.setTop (entryFrame m #[(.int p0), (.int p1), (.int p2), (.int p3)] maxLocals)) t := by
     intro t kt
     refine G407 _ ?_
     refine XS.icmpNo X37.here hx rfl (hb hby at_104) rfl (flt (by decide)).2.2.1 ?_
     refine XS.iconst X37.here hx rfl (hb hby at_107) ?_
     refine XS.iload X37.here hx rfl (hb hby at_108) rfl ?_
     exact kt
    have G409 : ∀ t, Steps p.tables e below (T37.setTop (mkF m 124 #[iv p0, iv p1, iv p2, iv p3, iv c0, iv c1, iv c2, rv b6, rv b30, iv 2, iv 1, iv 0, iv 0, iv 0, .unset, .unset] [(.int (1 : Int32)), (.int (2 : Int32))])) t → Steps p.tables e below (s₁.setTop (entryFrame m #[(.int p0), (.int p1), (.int p2), (.int p3)] maxLocals)) t := by
     intro t kt
     refine G408 _ ?_
     refine XS.icmpYes X37.here hx rfl (pc0 := 110) (pc' := 117) rfl (hb hby at_110) rfl (flt (by decide)).2.1 (by decide) (by decide) ?_
     refine XS.iconst X37.here hx rfl (hb hby at_117) ?_
     refine XS.istore X37.here hx rfl (hb hby at_118) rfl (l' := #[iv p0, iv p1, iv p2, iv p3, iv c0, iv c1, iv c2, rv b6, rv b30, iv 2, iv 1, iv 0, iv 0, iv 0, .unset, .unset]) rfl ?_
     refine XS.iload X37.here hx rfl (hb hby at_120) rfl ?_
     refine XS.iload X37.here hx rfl (hb hby at_122) rfl ?_
     exact kt
    obtain ⟨_, _, ⟨T410, L410, k410, n410⟩, -, X410, ⟨Lc410, hQ410, l410, y410, z410⟩, st410⟩ := Jvm.LawKit.callS X37 hx (y := (⟨"com/example/wary_bearer/warybearer/http/Http1Reader", "isToken", "(Ljava/lang/String;II)Z"⟩ : MethodName)) hown (mvT hZ (hw _ (List.mem_of_getElem? (i := 35) rfl))) (mvT hZ (hw _ (List.mem_of_getElem? (i := 36) rfl))) (mvT hZ (hw _ (List.mem_of_getElem? (i := 37) rfl))) (mvT hZ (hw _ (List.mem_of_getElem? (i := 38) rfl))) (by decide) (backOf (W := 0) (rmTok0 l Z a0 hw [] b30 (2 : Int32) (1 : Int32) T37.heap n0 z252 (by decide)) hZ (hw _ (List.mem_of_getElem? (i := 38) rfl)) (hw _ (List.mem_of_getElem? (i := 37) rfl)) (by decide) (by decide)) (g := (mkF m 179 #[iv p0, iv p1, iv p2, iv p3, iv c0, iv c1, iv c2, rv b6, rv b30, iv 2, iv 1, iv 0, iv 0, iv 0, iv 0, .unset] [(.int (1 : Int32)), (.int (2 : Int32)), (.ref b30)])) rfl (by rw [hml]; rfl) (argsL := [(.ref b30), (.int (2 : Int32)), (.int (1 : Int32))]) (rest := []) (lenOf pd_15 rfl) rfl (by show 2 * 0 + _ ≤ _; exact Nat.le_of_eq rfl) (hb hby at_179) (fun _ _ => ⟨rfl, rfl, (by decide : 4 + 0 ≤ _), (by decide : 16 + 0 ≤ _)⟩)
    dsimp only [Pt.U, Pt.locs, Pt.cells, Pt.slots] at X410 l410 y410 z410 st410 hQ410
    subst l410 y410 z410
    obtain ⟨rfl, N410q, eh410⟩ := hQ410
    have N410 := Fr.app N37 N410q
    have G411 : ∀ t, Steps p.tables e below (T410.setTop (mkF m 188 #[iv p0, iv p1, iv p2, iv p3, iv c0, iv c1, iv c2, rv b6, rv b30, iv 2, iv 1, iv 0, iv 0, iv 0, iv 0, iv 0] [(.int (0 : Int32)), (.int (0 : Int32))])) t → Steps p.tables e below (s₁.setTop (entryFrame m #[(.int p0), (.int p1), (.int p2), (.int p3)] maxLocals)) t := by
     intro t kt
     refine G409 _ ?_
     refine XS.icmpYes X37.here hx rfl (pc0 := 124) (pc' := 170) rfl (hb hby at_124) rfl (flt (by decide)).2.1 (by decide) (by decide) ?_
     refine XS.iconst X37.here hx rfl (hb hby at_170) ?_
     refine XS.istore X37.here hx rfl (hb hby at_171) rfl (l' := #[iv p0, iv p1, iv p2, iv p3, iv c0, iv c1, iv c2, rv b6, rv b30, iv 2, iv 1, iv 0, iv 0, iv 0, iv 0, .unset]) rfl ?_
     refine XS.aload X37.here hx rfl (hb hby at_173) rfl rfl ?_
     refine XS.iload X37.here hx rfl (hb hby at_175) rfl ?_
     refine XS.iload X37.here hx rfl (hb hby at_177) rfl ?_
     show Steps p.tables e below (T37.setTop (mkF m 179 #[iv p0, iv p1, iv p2, iv p3, iv c0, iv c1, iv c2, rv b6, rv b30, iv 2, iv 1, iv 0, iv 0, iv 0, iv 0, .unset] [(.int (1 : Int32)), (.int (2 : Int32)), (.ref b30)])) _
     refine st410 _ ?_
     refine XS.istore X410.here hx rfl (hb hby at_182) rfl (l' := #[iv p0, iv p1, iv p2, iv p3, iv c0, iv c1, iv c2, rv b6, rv b30, iv 2, iv 1, iv 0, iv 0, iv 0, iv 0, iv 0]) rfl ?_
     refine XS.iload X410.here hx rfl (hb hby at_184) rfl ?_
     refine XS.iload X410.here hx rfl (hb hby at_186) rfl ?_
     exact kt
    obtain ⟨fs, hr, hrun, hended, hW, hsame⟩ := X410.leave (v := some (.int (1 : Int32))) (fun h => by rw [Bd.returns] at h; cases h)
    refine ⟨_, _, G411 _ ?_, hrun, hended, _, _, rfl, ?_, ⟨_, rfl⟩, hW, hsame.mono (by decide) (by decide)⟩
    ·skip
     refine XS.icmpNo X410.here hx rfl (hb hby at_188) rfl (teq (by decide)).2 ?_
     refine XS.iconst X410.here hx rfl (hb hby at_191) ?_
     refine XS.goto X410.here hx rfl (pc0 := 192) (pc' := 196) rfl (hb hby at_192) (by decide) (by decide) ?_
     exact retN X410 hx (t := .boolean) Bd.returns (by simp) (hb hby at_196) hr
    ·show Q0 Z p0 p1 p2 p3 tt ct cst fv h0 n0 _ T410.heap _
     rw [eh410]
     exact ⟨rfl, N410⟩
   ·skip
    have G412 : ∀ t, Steps p.tables e below (T37.setTop (mkF m 66 #[iv p0, iv p1, iv p2, iv p3, iv c0, iv c1, iv c2, rv b6, rv b30, iv 2, iv 2, .unset, .unset, .unset, .unset, .unset] [(.int (2 : Int32))])) t → Steps p.tables e below (s₁.setTop (entryFrame m #[(.int p0), (.int p1), (.int p2), (.int p3)] maxLocals)) t := by
     intro t kt
     refine G255 _ ?_
     show Steps p.tables e below (T37.setTop (mkF m 64 #[iv p0, iv p1, iv p2, iv p3, iv c0, iv c1, iv c2, rv b6, rv b30, iv 2, iv 2, .unset, .unset, .unset, .unset, .unset] [])) _
     refine XS.iload X37.here hx rfl (hb hby at_64) rfl ?_
     exact kt
    have G413 : ∀ t, Steps p.tables e below (T37.setTop (mkF m 85 #[iv p0, iv p1, iv p2, iv p3, iv c0, iv c1, iv c2, rv b6, rv b30, iv 2, iv 2, iv 0, .unset, .unset, .unset, .unset] [(.int (1 : Int32)), (.int (2 : Int32))])) t → Steps p.tables e below (s₁.setTop (entryFrame m #[(.int p0), (.int p1), (.int p2), (.int p3)] maxLocals)) t := by
     intro t kt
     refine G412 _ ?_
     refine XS.ifYes X37.here hx rfl (pc0 := 66) (pc' := 79) rfl (hb hby at_66) rfl ((if0 _ _).trans (tlt (by decide)).2.2.1) (by decide) (by decide) ?_
     refine XS.iconst X37.here hx rfl (hb hby at_79) ?_
     refine XS.istore X37.here hx rfl (hb hby at_80) rfl (l' := #[iv p0, iv p1, iv p2, iv p3, iv c0, iv c1, iv c2, rv b6, rv b30, iv 2, iv 2, iv 0, .unset, .unset, .unset, .unset]) rfl ?_
     refine XS.iload X37.here hx rfl (hb hby at_82) rfl ?_
     refine XS.iconst X37.here hx rfl (hb hby at_84) ?_
     exact kt
    have G414 : ∀ t, Steps p.tables e below (T37.setTop (mkF m 104 #[iv p0, iv p1, iv p2, iv p3, iv c0, iv c1, iv c2, rv b6, rv b30, iv 2, iv 2, iv 0, iv 0, .unset, .unset, .unset] [(.int (2 : Int32)), (.int (2 : Int32))])) t → Steps p.tables e below (s₁.setTop (entryFrame m #[(.int p0), (.int p1), (.int p2), (.int p3)] maxLocals)) t := by
     intro t kt
     refine G413 _ ?_
     refine XS.icmpYes X37.here hx rfl (pc0 := 85) (pc' := 98) rfl (hb hby at_85) rfl (tlt (by decide)).2.2.1 (by decide) (by decide) ?_
     refine XS.iconst X37.here hx rfl (hb hby at_98) ?_
     refine XS.istore X37.here hx rfl (hb hby at_99) rfl (l' := #[iv p0, iv p1, iv p2, iv p3, iv c0, iv c1, iv c2, rv b6, rv b30, iv 2, iv 2, iv 0, iv 0, .unset, .unset, .unset]) rfl ?_
     refine XS.iload X37.here hx rfl (hb hby at_101) rfl ?_
     refine XS.iconst X37.here hx rfl (hb hby at_103) ?_
     exact kt
    have G415 : ∀ t, Steps p.tables e below (T37.setTop (mkF m 110 #[iv p0, iv p1, iv p2, iv p3, iv c0, iv c1, iv c2, rv b6, rv b30, iv 2, iv 2, iv 0, iv 0, .unset, .unset, .unset] [(.int (2 : Int32)), (.int (2 : Int32))])) t → Steps p.tables e below (s₁.setTop (entryFrame m #[(.int p0), (.int p1), (.int p2), (.int p3)] maxLocals)) t := by
     intro t kt
     refine G414 _ ?_
     refine XS.icmpNo X37.here hx rfl (hb hby at_104) rfl (flt (by decide)).2.2.1 ?_
     refine XS.iconst X37.here hx rfl (hb hby at_107) ?_
     refine XS.iload X37.here hx rfl (hb hby at_108) rfl ?_
     exact kt
    have G416 : ∀ t, Steps p.tables e below (T37.setTop (mkF m 124 #[iv p0, iv p1, iv p2, iv p3, iv c0, iv c1, iv c2, rv b6, rv b30, iv 2, iv 2, iv 0, iv 0, iv 0, .unset, .unset] [(.int (2 : Int32)), (.int (2 : Int32))])) t → Steps p.tables e below (s₁.setTop (entryFrame m #[(.int p0), (.int p1), (.int p2), (.int p3)] maxLocals)) t := by
     intro t kt
     refine G415 _ ?_
     refine XS.icmpYes X37.here hx rfl (pc0 := 110) (pc' := 117) rfl (hb hby at_110) rfl (flt (by decide)).2.1 (by decide) (by decide) ?_
     refine XS.iconst X37.here hx rfl (hb hby at_117) ?_
     refine XS.istore X37.here hx rfl (hb hby at_118) rfl (l' := #[iv p0, iv p1, iv p2, iv p3, iv c0, iv c1, iv c2, rv b6, rv b30, iv 2, iv 2, iv 0, iv 0, iv 0, .unset, .unset]) rfl ?_
     refine XS.iload X37.here hx rfl (hb hby at_120) rfl ?_
     refine XS.iload X37.here hx rfl (hb hby at_122) rfl ?_
     exact kt
    obtain ⟨_, _, ⟨T417, L417, k417, n417⟩, -, X417, ⟨Lc417, hQ417, l417, y417, z417⟩, st417⟩ := Jvm.LawKit.callS X37 hx (y := (⟨"com/example/wary_bearer/warybearer/http/Http1Reader", "isToken", "(Ljava/lang/String;II)Z"⟩ : MethodName)) hown (mvT hZ (hw _ (List.mem_of_getElem? (i := 35) rfl))) (mvT hZ (hw _ (List.mem_of_getElem? (i := 36) rfl))) (mvT hZ (hw _ (List.mem_of_getElem? (i := 37) rfl))) (mvT hZ (hw _ (List.mem_of_getElem? (i := 38) rfl))) (by decide) (backOf (W := 0) (rmTok0 l Z a0 hw [] b30 (2 : Int32) (2 : Int32) T37.heap n0 z252 (by decide)) hZ (hw _ (List.mem_of_getElem? (i := 38) rfl)) (hw _ (List.mem_of_getElem? (i := 37) rfl)) (by decide) (by decide)) (g := (mkF m 179 #[iv p0, iv p1, iv p2, iv p3, iv c0, iv c1, iv c2, rv b6, rv b30, iv 2, iv 2, iv 0, iv 0, iv 0, iv 0, .unset] [(.int (2 : Int32)), (.int (2 : Int32)), (.ref b30)])) rfl (by rw [hml]; rfl) (argsL := [(.ref b30), (.int (2 : Int32)), (.int (2 : Int32))]) (rest := []) (lenOf pd_15 rfl) rfl (by show 2 * 0 + _ ≤ _; exact Nat.le_of_eq rfl) (hb hby at_179) (fun _ _ => ⟨rfl, rfl, (by decide : 4 + 0 ≤ _), (by decide : 16 + 0 ≤ _)⟩)
    dsimp only [Pt.U, Pt.locs, Pt.cells, Pt.slots] at X417 l417 y417 z417 st417 hQ417
    subst l417 y417 z417
    obtain ⟨rfl, N417q, eh417⟩ := hQ417
    have N417 := Fr.app N37 N417q
    have G418 : ∀ t, Steps p.tables e below (T417.setTop (mkF m 188 #[iv p0, iv p1, iv p2, iv p3, iv c0, iv c1, iv c2, rv b6, rv b30, iv 2, iv 2, iv 0, iv 0, iv 0, iv 0, iv 0] [(.int (0 : Int32)), (.int (0 : Int32))])) t → Steps p.tables e below (s₁.setTop (entryFrame m #[(.int p0), (.int p1), (.int p2), (.int p3)] maxLocals)) t := by
     intro t kt
     refine G416 _ ?_
     refine XS.icmpYes X37.here hx rfl (pc0 := 124) (pc' := 170) rfl (hb hby at_124) rfl (flt (by decide)).2.1 (by decide) (by decide) ?_
     refine XS.iconst X37.here hx rfl (hb hby at_170) ?_
     refine XS.istore X37.here hx rfl (hb hby at_171) rfl (l' := #[iv p0, iv p1, iv p2, iv p3, iv c0, iv c1, iv c2, rv b6, rv b30, iv 2, iv 2, iv 0, iv 0, iv 0, iv 0, .unset]) rfl ?_
     refine XS.aload X37.here hx rfl (hb hby at_173) rfl rfl ?_
     refine XS.iload X37.here hx rfl (hb hby at_175) rfl ?_
     refine XS.iload X37.here hx rfl (hb hby at_177) rfl ?_
     show Steps p.tables e below (T37.setTop (mkF m 179 #[iv p0, iv p1, iv p2, iv p3, iv c0, iv c1, iv c2, rv b6, rv b30, iv 2, iv 2, iv 0, iv 0, iv 0, iv 0, .unset] [(.int (2 : Int32)), (.int (2 : Int32)), (.ref b30)])) _
     refine st417 _ ?_
     refine XS.istore X417.here hx rfl (hb hby at_182) rfl (l' := #[iv p0, iv p1, iv p2, iv p3, iv c0, iv c1, iv c2, rv b6, rv b30, iv 2, iv 2, iv 0, iv 0, iv 0, iv 0, iv 0]) rfl ?_
     refine XS.iload X417.here hx rfl (hb hby at_184) rfl ?_
     refine XS.iload X417.here hx rfl (hb hby at_186) rfl ?_
     exact kt
    obtain ⟨fs, hr, hrun, hended, hW, hsame⟩ := X417.leave (v := some (.int (1 : Int32))) (fun h => by rw [Bd.returns] at h; cases h)
    refine ⟨_, _, G418 _ ?_, hrun, hended, _, _, rfl, ?_, ⟨_, rfl⟩, hW, hsame.mono (by decide) (by decide)⟩
    ·skip
     refine XS.icmpNo X417.here hx rfl (hb hby at_188) rfl (teq (by decide)).2 ?_
     refine XS.iconst X417.here hx rfl (hb hby at_191) ?_
     refine XS.goto X417.here hx rfl (pc0 := 192) (pc' := 196) rfl (hb hby at_192) (by decide) (by decide) ?_
     exact retN X417 hx (t := .boolean) Bd.returns (by simp) (hb hby at_196) hr
    ·show Q0 Z p0 p1 p2 p3 tt ct cst fv h0 n0 _ T417.heap _
     rw [eh417]
     exact ⟨rfl, N417⟩
   ·skip
    have G419 : ∀ t, Steps p.tables e below (T37.setTop (mkF m 66 #[iv p0, iv p1, iv p2, iv p3, iv c0, iv c1, iv c2, rv b6, rv b30, iv 2, iv 3, .unset, .unset, .unset, .unset, .unset] [(.int (2 : Int32))])) t → Steps p.tables e below (s₁.setTop (entryFrame m #[(.int p0), (.int p1), (.int p2), (.int p3)] maxLocals)) t := by
     intro t kt
     refine G255 _ ?_
     show Steps p.tables e below (T37.setTop (mkF m 64 #[iv p0, iv p1, iv p2, iv p3, iv c0, iv c1, iv c2, rv b6, rv b30, iv 2, iv 3, .unset, .unset, .unset, .unset, .unset] [])) _
     refine XS.iload X37.here hx rfl (hb hby at_64) rfl ?_
     exact kt
    have G420 : ∀ t, Steps p.tables e below (T37.setTop (mkF m 85 #[iv p0, iv p1, iv p2, iv p3, iv c0, iv c1, iv c2, rv b6, rv b30, iv 2, iv 3, iv 0, .unset, .unset, .unset, .unset] [(.int (1 : Int32)), (.int (2 : Int32))])) t → Steps p.tables e below (s₁.setTop (entryFrame m #[(.int p0), (.int p1), (.int p2), (.int p3)] maxLocals)) t := by
     intro t kt
     refine G419 _ ?_
     refine XS.ifYes X37.here hx rfl (pc0 := 66) (pc' := 79) rfl (hb hby at_66) rfl ((if0 _ _).trans (tlt (by decide)).2.2.1) (by decide) (by decide) ?_
     refine XS.iconst X37.here hx rfl (hb hby at_79) ?_
     refine XS.istore X37.here hx rfl (hb hby at_80) rfl (l' := #[iv p0, iv p1, iv p2, iv p3, iv c0, iv c1, iv c2, rv b6, rv b30, iv 2, iv 3, iv 0, .unset, .unset, .unset, .unset]) rfl ?_
     refine XS.iload X37.here hx rfl (hb hby at_82) rfl ?_
     refine XS.iconst X37.here hx rfl (hb hby at_84) ?_
     exact kt
    have G421 : ∀ t, Steps p.tables e below (T37.setTop (mkF m 104 #[iv p0, iv p1, iv p2, iv p3, iv c0, iv c1, iv c2, rv b6, rv b30, iv 2, iv 3, iv 0, iv 0, .unset, .unset, .unset] [(.int (2 : Int32)), (.int (2 : Int32))])) t → Steps p.tables e below (s₁.setTop (entryFrame m #[(.int p0), (.int p1), (.int p2), (.int p3)] maxLocals)) t := by
     intro t kt
     refine G420 _ ?_
     refine XS.icmpYes X37.here hx rfl (pc0 := 85) (pc' := 98) rfl (hb hby at_85) rfl (tlt (by decide)).2.2.1 (by decide) (by decide) ?_
     refine XS.iconst X37.here hx rfl (hb hby at_98) ?_
     refine XS.istore X37.here hx rfl (hb hby at_99) rfl (l' := #[iv p0, iv p1, iv p2, iv p3, iv c0, iv c1, iv c2, rv b6, rv b30, iv 2, iv 3, iv 0, iv 0, .unset, .unset, .unset]) rfl ?_
     refine XS.iload X37.here hx rfl (hb hby at_101) rfl ?_
     refine XS.iconst X37.here hx rfl (hb hby at_103) ?_
     exact kt
    have G422 : ∀ t, Steps p.tables e below (T37.setTop (mkF m 110 #[iv p0, iv p1, iv p2, iv p3, iv c0, iv c1, iv c2, rv b6, rv b30, iv 2, iv 3, iv 0, iv 0, .unset, .unset, .unset] [(.int (3 : Int32)), (.int (2 : Int32))])) t → Steps p.tables e below (s₁.setTop (entryFrame m #[(.int p0), (.int p1), (.int p2), (.int p3)] maxLocals)) t := by
     intro t kt
     refine G421 _ ?_
     refine XS.icmpNo X37.here hx rfl (hb hby at_104) rfl (flt (by decide)).2.2.1 ?_
     refine XS.iconst X37.here hx rfl (hb hby at_107) ?_
     refine XS.iload X37.here hx rfl (hb hby at_108) rfl ?_
     exact kt
    have G423 : ∀ t, Steps p.tables e below (T37.setTop (mkF m 124 #[iv p0, iv p1, iv p2, iv p3, iv c0, iv c1, iv c2, rv b6, rv b30, iv 2, iv 3, iv 0, iv 0, iv 1, .unset, .unset] [(.int (3 : Int32)), (.int (2 : Int32))])) t → Steps p.tables e below (s₁.setTop (entryFrame m #[(.int p0), (.int p1), (.int p2), (.int p3)] maxLocals)) t := by
     intro t kt
     refine G422 _ ?_
     refine XS.icmpNo X37.here hx rfl (hb hby at_110) rfl (tlt (by decide)).2.1 ?_
     refine XS.iconst X37.here hx rfl (hb hby at_113) ?_
     refine XS.goto X37.here hx rfl (pc0 := 114) (pc' := 118) rfl (hb hby at_114) (by decide) (by decide) ?_
     refine XS.istore X37.here hx rfl (hb hby at_118) rfl (l' := #[iv p0, iv p1, iv p2, iv p3, iv c0, iv c1, iv c2, rv b6, rv b30, iv 2, iv 3, iv 0, iv 0, iv 1, .unset, .unset]) rfl ?_
     refine XS.iload X37.here hx rfl (hb hby at_120) rfl ?_
     refine XS.iload X37.here hx rfl (hb hby at_122) rfl ?_
     exact kt
    have G424 : ∀ t, Steps p.tables e below (T37.setTop (mkF m 129 #[iv p0, iv p1, iv p2, iv p3, iv c0, iv c1, iv c2, rv b6, rv b30, iv 2, iv 3, iv 0, iv 0, iv 1, .unset, .unset] [(.int (0 : Int32))])) t → Steps p.tables e below (s₁.setTop (entryFrame m #[(.int p0), (.int p1), (.int p2), (.int p3)] maxLocals)) t := by
     intro t kt
     refine G423 _ ?_
     refine XS.icmpNo X37.here hx rfl (hb hby at_124) rfl (tlt (by decide)).2.1 ?_
     refine XS.iload X37.here hx rfl (hb hby at_127) rfl ?_
     exact kt
    have G425 : ∀ t, Steps p.tables e below (T37.setTop (mkF m 142 #[iv p0, iv p1, iv p2, iv p3, iv c0, iv c1, iv c2, rv b6, rv b30, iv 2, iv 3, iv 0, iv 0, iv 1, .unset, .unset] [(.int (0 : Int32))])) t → Steps p.tables e below (s₁.setTop (entryFrame m #[(.int p0), (.int p1), (.int p2), (.int p3)] maxLocals)) t := by
     intro t kt
     refine G424 _ ?_
     refine XS.ifYes X37.here hx rfl (pc0 := 129) (pc' := 140) rfl (hb hby at_129) rfl ((if0 _ _).trans (teq (by decide)).1) (by decide) (by decide) ?_
     refine XS.iload X37.here hx rfl (hb hby at_140) rfl ?_
     exact kt
    have G426 : ∀ t, Steps p.tables e below (T37.setTop (mkF m 155 #[iv p0, iv p1, iv p2, iv p3, iv c0, iv c1, iv c2, rv b6, rv b30, iv 2, iv 3, iv 0, iv 0, iv 1, .unset, .unset] [(.int (1 : Int32))])) t → Steps p.tables e below (s₁.setTop (entryFrame m #[(.int p0), (.int p1), (.int p2), (.int p3)] maxLocals)) t := by
     intro t kt
     refine G425 _ ?_
     refine XS.ifYes X37.here hx rfl (pc0 := 142) (pc' := 153) rfl (hb hby at_142) rfl ((if0 _ _).trans (teq (by decide)).1) (by decide) (by decide) ?_
     refine XS.iload X37.here hx rfl (hb hby at_153) rfl ?_
     exact kt
    obtain ⟨_, _, ⟨T427, L427, k427, n427⟩, -, X427, ⟨Lc427, hQ427, l427, y427, z427⟩, st427⟩ := Jvm.LawKit.callS X37 hx (y := (⟨"com/example/wary_bearer/warybearer/http/Http1ReaderIsTokenPinLaw", "isT", "(C)Z"⟩ : MethodName)) hown (mvT hZ (hw _ (List.mem_of_getElem? (i := 59) rfl))) (mvT hZ (hw _ (List.mem_of_getElem? (i := 60) rfl))) (mvT hZ (hw _ (List.mem_of_getElem? (i := 2) rfl))) (mvT hZ (hw _ (List.mem_of_getElem? (i := 61) rfl))) (by decide) (backOf (W := 0) (rm14 l Z a0 hw [] c2  T37.heap n0 z252 ) hZ (hw _ (List.mem_of_getElem? (i := 61) rfl)) (hw _ (List.mem_of_getElem? (i := 2) rfl)) (by decide) (by decide)) (g := (mkF m 160 #[iv p0, iv p1, iv p2, iv p3, iv c0, iv c1, iv c2, rv b6, rv b30, iv 2, iv 3, iv 0, iv 0, iv 1, .unset, .unset] [(.int c2)])) rfl (by rw [hml]; rfl) (argsL := [(.int c2)]) (rest := []) (lenOf pd_16 rfl) rfl (by show 2 * 0 + _ ≤ _; exact Nat.le_of_eq rfl) (hb hby at_160) (fun _ _ => ⟨rfl, rfl, (by decide : 4 + 0 ≤ _), (by decide : 16 + 0 ≤ _)⟩)
    dsimp only [Pt.U, Pt.locs, Pt.cells, Pt.slots] at X427 l427 y427 z427 st427 hQ427
    subst l427 y427 z427
    obtain ⟨rfl, N427q, eh427⟩ := hQ427
    have N427 := Fr.app N37 N427q
    have G428 : ∀ t, Steps p.tables e below (T427.setTop (mkF m 163 #[iv p0, iv p1, iv p2, iv p3, iv c0, iv c1, iv c2, rv b6, rv b30, iv 2, iv 3, iv 0, iv 0, iv 1, .unset, .unset] [(.int (fisT c2))])) t → Steps p.tables e below (s₁.setTop (entryFrame m #[(.int p0), (.int p1), (.int p2), (.int p3)] maxLocals)) t := by
     intro t kt
     refine G426 _ ?_
     refine XS.ifNo X37.here hx rfl (hb hby at_155) rfl ((if0 _ _).trans (feq (by decide)).1) ?_
     refine XS.iload X37.here hx rfl (hb hby at_158) rfl ?_
     show Steps p.tables e below (T37.setTop (mkF m 160 #[iv p0, iv p1, iv p2, iv p3, iv c0, iv c1, iv c2, rv b6, rv b30, iv 2, iv 3, iv 0, iv 0, iv 1, .unset, .unset] [(.int c2)])) _
     refine st427 _ ?_
     exact kt
    by_cases hc163_429 : (fisT c2) = (0 : Int32)
    ·skip
     obtain ⟨_, _, ⟨T430, L430, k430, n430⟩, -, X430, ⟨Lc430, hQ430, l430, y430, z430⟩, st430⟩ := Jvm.LawKit.callS X427 hx (y := (⟨"com/example/wary_bearer/warybearer/http/Http1Reader", "isToken", "(Ljava/lang/String;II)Z"⟩ : MethodName)) hown (mvT hZ (hw _ (List.mem_of_getElem? (i := 35) rfl))) (mvT hZ (hw _ (List.mem_of_getElem? (i := 36) rfl))) (mvT hZ (hw _ (List.mem_of_getElem? (i := 37) rfl))) (mvT hZ (hw _ (List.mem_of_getElem? (i := 38) rfl))) (by decide) (backOf (W := 0) (rmTokU23 l Z a0 hw [] b30 c0 c1 c2 ta37 kb37 tt ct cst fv T37.heap n0 z252 A37 Fc37 Fv37 V37 fa249 hb0 hb1 hb2 TS TA TS2 TV SS) hZ (hw _ (List.mem_of_getElem? (i := 38) rfl)) (hw _ (List.mem_of_getElem? (i := 37) rfl)) (by decide) (by decide)) (g := (mkF m 179 #[iv p0, iv p1, iv p2, iv p3, iv c0, iv c1, iv c2, rv b6, rv b30, iv 2, iv 3, iv 0, iv 0, iv 1, iv 0, .unset] [(.int (3 : Int32)), (.int (2 : Int32)), (.ref b30)])) rfl (by rw [hml]; rfl) (argsL := [(.ref b30), (.int (2 : Int32)), (.int (3 : Int32))]) (rest := []) (lenOf pd_15 rfl) rfl (by show 2 * 0 + _ ≤ _; exact Nat.le_of_eq rfl) (hb hby at_179) (fun _ _ => ⟨rfl, eh427, (by decide : 4 + 0 ≤ _), (by decide : 16 + 0 ≤ _)⟩)
     dsimp only [Pt.U, Pt.locs, Pt.cells, Pt.slots] at X430 l430 y430 z430 st430 hQ430
     subst l430 y430 z430
     obtain ⟨rfl, N430q, eh430⟩ := hQ430
     have N430 := Fr.app N427 N430q
     have G431 : ∀ t, Steps p.tables e below (T430.setTop (mkF m 188 #[iv p0, iv p1, iv p2, iv p3, iv c0, iv c1, iv c2, rv b6, rv b30, iv 2, iv 3, iv 0, iv 0, iv 1, iv 0, iv (own_tok [c2])] [(.int (0 : Int32)), (.int (own_tok [c2]))])) t → Steps p.tables e below (s₁.setTop (entryFrame m #[(.int p0), (.int p1), (.int p2), (.int p3)] maxLocals)) t := by
      intro t kt
      refine G428 _ ?_
      refine XS.ifYes X427.here hx rfl (pc0 := 163) (pc' := 170) rfl (hb hby at_163) rfl ((if0 _ _).trans (teq hc163_429).1) (by decide) (by decide) ?_
      refine XS.iconst X427.here hx rfl (hb hby at_170) ?_
      refine XS.istore X427.here hx rfl (hb hby at_171) rfl (l' := #[iv p0, iv p1, iv p2, iv p3, iv c0, iv c1, iv c2, rv b6, rv b30, iv 2, iv 3, iv 0, iv 0, iv 1, iv 0, .unset]) rfl ?_
      refine XS.aload X427.here hx rfl (hb hby at_173) rfl rfl ?_
      refine XS.iload X427.here hx rfl (hb hby at_175) rfl ?_
      refine XS.iload X427.here hx rfl (hb hby at_177) rfl ?_
      refine st430 _ ?_
      refine XS.istore X430.here hx rfl (hb hby at_182) rfl (l' := #[iv p0, iv p1, iv p2, iv p3, iv c0, iv c1, iv c2, rv b6, rv b30, iv 2, iv 3, iv 0, iv 0, iv 1, iv 0, iv (own_tok [c2])]) rfl ?_
      refine XS.iload X430.here hx rfl (hb hby at_184) rfl ?_
      refine XS.iload X430.here hx rfl (hb hby at_186) rfl ?_
      exact kt
     have hc188_432 : (own_tok [c2]) = (0 : Int32) := by rw [own_tok, if_pos hc163_429]
     obtain ⟨fs, hr, hrun, hended, hW, hsame⟩ := X430.leave (v := some (.int (1 : Int32))) (fun h => by rw [Bd.returns] at h; cases h)
     refine ⟨_, _, G431 _ ?_, hrun, hended, _, _, rfl, ?_, ⟨_, rfl⟩, hW, hsame.mono (by decide) (by decide)⟩
     ·skip
      refine XS.icmpNo X430.here hx rfl (hb hby at_188) rfl (teq hc188_432).2 ?_
      refine XS.iconst X430.here hx rfl (hb hby at_191) ?_
      refine XS.goto X430.here hx rfl (pc0 := 192) (pc' := 196) rfl (hb hby at_192) (by decide) (by decide) ?_
      exact retN X430 hx (t := .boolean) Bd.returns (by simp) (hb hby at_196) hr
     ·show Q0 Z p0 p1 p2 p3 tt ct cst fv h0 n0 _ T430.heap _
      rw [eh430]
      exact ⟨rfl, N430⟩
    ·skip
     obtain ⟨_, _, ⟨T433, L433, k433, n433⟩, -, X433, ⟨Lc433, hQ433, l433, y433, z433⟩, st433⟩ := Jvm.LawKit.callS X427 hx (y := (⟨"com/example/wary_bearer/warybearer/http/Http1Reader", "isToken", "(Ljava/lang/String;II)Z"⟩ : MethodName)) hown (mvT hZ (hw _ (List.mem_of_getElem? (i := 35) rfl))) (mvT hZ (hw _ (List.mem_of_getElem? (i := 36) rfl))) (mvT hZ (hw _ (List.mem_of_getElem? (i := 37) rfl))) (mvT hZ (hw _ (List.mem_of_getElem? (i := 38) rfl))) (by decide) (backOf (W := 0) (rmTokU23 l Z a0 hw [] b30 c0 c1 c2 ta37 kb37 tt ct cst fv T37.heap n0 z252 A37 Fc37 Fv37 V37 fa249 hb0 hb1 hb2 TS TA TS2 TV SS) hZ (hw _ (List.mem_of_getElem? (i := 38) rfl)) (hw _ (List.mem_of_getElem? (i := 37) rfl)) (by decide) (by decide)) (g := (mkF m 179 #[iv p0, iv p1, iv p2, iv p3, iv c0, iv c1, iv c2, rv b6, rv b30, iv 2, iv 3, iv 0, iv 0, iv 1, iv 1, .unset] [(.int (3 : Int32)), (.int (2 : Int32)), (.ref b30)])) rfl (by rw [hml]; rfl) (argsL := [(.ref b30), (.int (2 : Int32)), (.int (3 : Int32))]) (rest := []) (lenOf pd_15 rfl) rfl (by show 2 * 0 + _ ≤ _; exact Nat.le_of_eq rfl) (hb hby at_179) (fun _ _ => ⟨rfl, eh427, (by decide : 4 + 0 ≤ _), (by decide : 16 + 0 ≤ _)⟩)
     dsimp only [Pt.U, Pt.locs, Pt.cells, Pt.slots] at X433 l433 y433 z433 st433 hQ433
     subst l433 y433 z433
     obtain ⟨rfl, N433q, eh433⟩ := hQ433
     have N433 := Fr.app N427 N433q
     have G434 : ∀ t, Steps p.tables e below (T433.setTop (mkF m 188 #[iv p0, iv p1, iv p2, iv p3, iv c0, iv c1, iv c2, rv b6, rv b30, iv 2, iv 3, iv 0, iv 0, iv 1, iv 1, iv (own_tok [c2])] [(.int (1 : Int32)), (.int (own_tok [c2]))])) t → Steps p.tables e below (s₁.setTop (entryFrame m #[(.int p0), (.int p1), (.int p2), (.int p3)] maxLocals)) t := by
      intro t kt
      refine G428 _ ?_
      refine XS.ifNo X427.here hx rfl (hb hby at_163) rfl ((if0 _ _).trans (feq hc163_429).1) ?_
      refine XS.iconst X427.here hx rfl (hb hby at_166) ?_
      refine XS.goto X427.here hx rfl (pc0 := 167) (pc' := 171) rfl (hb hby at_167) (by decide) (by decide) ?_
      refine XS.istore X427.here hx rfl (hb hby at_171) rfl (l' := #[iv p0, iv p1, iv p2, iv p3, iv c0, iv c1, iv c2, rv b6, rv b30, iv 2, iv 3, iv 0, iv 0, iv 1, iv 1, .unset]) rfl ?_
      refine XS.aload X427.here hx rfl (hb hby at_173) rfl rfl ?_
      refine XS.iload X427.here hx rfl (hb hby at_175) rfl ?_
      refine XS.iload X427.here hx rfl (hb hby at_177) rfl ?_
      refine st433 _ ?_
      refine XS.istore X433.here hx rfl (hb hby at_182) rfl (l' := #[iv p0, iv p1, iv p2, iv p3, iv c0, iv c1, iv c2, rv b6, rv b30, iv 2, iv 3, iv 0, iv 0, iv 1, iv 1, iv (own_tok [c2])]) rfl ?_
      refine XS.iload X433.here hx rfl (hb hby at_184) rfl ?_
      refine XS.iload X433.here hx rfl (hb hby at_186) rfl ?_
      exact kt
     have hc188_435 : (own_tok [c2]) = (1 : Int32) := by rw [own_tok, if_neg hc163_429, own_tok]
     obtain ⟨fs, hr, hrun, hended, hW, hsame⟩ := X433.leave (v := some (.int (1 : Int32))) (fun h => by rw [Bd.returns] at h; cases h)
     refine ⟨_, _, G434 _ ?_, hrun, hended, _, _, rfl, ?_, ⟨_, rfl⟩, hW, hsame.mono (by decide) (by decide)⟩
     ·skip
      refine XS.icmpNo X433.here hx rfl (hb hby at_188) rfl (teq hc188_435).2 ?_
      refine XS.iconst X433.here hx rfl (hb hby at_191) ?_
      refine XS.goto X433.here hx rfl (pc0 := 192) (pc' := 196) rfl (hb hby at_192) (by decide) (by decide) ?_
      exact retN X433 hx (t := .boolean) Bd.returns (by simp) (hb hby at_196) hr
     ·show Q0 Z p0 p1 p2 p3 tt ct cst fv h0 n0 _ T433.heap _
      rw [eh433]
      exact ⟨rfl, N433⟩
  ·rcases own_at4 hto4 with rfl | rfl | rfl | rfl
   ·skip
    have G436 : ∀ t, Steps p.tables e below (T37.setTop (mkF m 66 #[iv p0, iv p1, iv p2, iv p3, iv c0, iv c1, iv c2, rv b6, rv b30, iv 3, iv 0, .unset, .unset, .unset, .unset, .unset] [(.int (3 : Int32))])) t → Steps p.tables e below (s₁.setTop (entryFrame m #[(.int p0), (.int p1), (.int p2), (.int p3)] maxLocals)) t := by
     intro t kt
     refine G255 _ ?_
     show Steps p.tables e below (T37.setTop (mkF m 64 #[iv p0, iv p1, iv p2, iv p3, iv c0, iv c1, iv c2, rv b6, rv b30, iv 3, iv 0, .unset, .unset, .unset, .unset, .unset] [])) _
     refine XS.iload X37.here hx rfl (hb hby at_64) rfl ?_
     exact kt
    have G437 : ∀ t, Steps p.tables e below (T37.setTop (mkF m 85 #[iv p0, iv p1, iv p2, iv p3, iv c0, iv c1, iv c2, rv b6, rv b30, iv 3, iv 0, iv 0, .unset, .unset, .unset, .unset] [(.int (1 : Int32)), (.int (3 : Int32))])) t → Steps p.tables e below (s₁.setTop (entryFrame m #[(.int p0), (.int p1), (.int p2), (.int p3)] maxLocals)) t := by
     intro t kt
     refine G436 _ ?_
     refine XS.ifYes X37.here hx rfl (pc0 := 66) (pc' := 79) rfl (hb hby at_66) rfl ((if0 _ _).trans (tlt (by decide)).2.2.1) (by decide) (by decide) ?_
     refine XS.iconst X37.here hx rfl (hb hby at_79) ?_
     refine XS.istore X37.here hx rfl (hb hby at_80) rfl (l' := #[iv p0, iv p1, iv p2, iv p3, iv c0, iv c1, iv c2, rv b6, rv b30, iv 3, iv 0, iv 0, .unset, .unset, .unset, .unset]) rfl ?_
     refine XS.iload X37.here hx rfl (hb hby at_82) rfl ?_
     refine XS.iconst X37.here hx rfl (hb hby at_84) ?_
     exact kt
    have G438 : ∀ t, Steps p.tables e below (T37.setTop (mkF m 104 #[iv p0, iv p1, iv p2, iv p3, iv c0, iv c1, iv c2, rv b6, rv b30, iv 3, iv 0, iv 0, iv 0, .unset, .unset, .unset] [(.int (2 : Int32)), (.int (3 : Int32))])) t → Steps p.tables e below (s₁.setTop (entryFrame m #[(.int p0), (.int p1), (.int p2), (.int p3)] maxLocals)) t := by
     intro t kt
     refine G437 _ ?_
     refine XS.icmpYes X37.here hx rfl (pc0 := 85) (pc' := 98) rfl (hb hby at_85) rfl (tlt (by decide)).2.2.1 (by decide) (by decide) ?_
     refine XS.iconst X37.here hx rfl (hb hby at_98) ?_
     refine XS.istore X37.here hx rfl (hb hby at_99) rfl (l' := #[iv p0, iv p1, iv p2, iv p3, iv c0, iv c1, iv c2, rv b6, rv b30, iv 3, iv 0, iv 0, iv 0, .unset, .unset, .unset]) rfl ?_
     refine XS.iload X37.here hx rfl (hb hby at_101) rfl ?_
     refine XS.iconst X37.here hx rfl (hb hby at_103) ?_
     exact kt
    have G439 : ∀ t, Steps p.tables e below (T37.setTop (mkF m 124 #[iv p0, iv p1, iv p2, iv p3, iv c0, iv c1, iv c2, rv b6, rv b30, iv 3, iv 0, iv 0, iv 0, iv 0, .unset, .unset] [(.int (0 : Int32)), (.int (3 : Int32))])) t → Steps p.tables e below (s₁.setTop (entryFrame m #[(.int p0), (.int p1), (.int p2), (.int p3)] maxLocals)) t := by
     intro t kt
     refine G438 _ ?_
     refine XS.icmpYes X37.here hx rfl (pc0 := 104) (pc' := 117) rfl (hb hby at_104) rfl (tlt (by decide)).2.2.1 (by decide) (by decide) ?_
     refine XS.iconst X37.here hx rfl (hb hby at_117) ?_
     refine XS.istore X37.here hx rfl (hb hby at_118) rfl (l' := #[iv p0, iv p1, iv p2, iv p3, iv c0, iv c1, iv c2, rv b6, rv b30, iv 3, iv 0, iv 0, iv 0, iv 0, .unset, .unset]) rfl ?_
     refine XS.iload X37.here hx rfl (hb hby at_120) rfl ?_
     refine XS.iload X37.here hx rfl (hb hby at_122) rfl ?_
     exact kt
    obtain ⟨_, _, ⟨T440, L440, k440, n440⟩, -, X440, ⟨Lc440, hQ440, l440, y440, z440⟩, st440⟩ := Jvm.LawKit.callS X37 hx (y := (⟨"com/example/wary_bearer/warybearer/http/Http1Reader", "isToken", "(Ljava/lang/String;II)Z"⟩ : MethodName)) hown (mvT hZ (hw _ (List.mem_of_getElem? (i := 35) rfl))) (mvT hZ (hw _ (List.mem_of_getElem? (i := 36) rfl))) (mvT hZ (hw _ (List.mem_of_getElem? (i := 37) rfl))) (mvT hZ (hw _ (List.mem_of_getElem? (i := 38) rfl))) (by decide) (backOf (W := 0) (rmTok0 l Z a0 hw [] b30 (3 : Int32) (0 : Int32) T37.heap n0 z252 (by decide)) hZ (hw _ (List.mem_of_getElem? (i := 38) rfl)) (hw _ (List.mem_of_getElem? (i := 37) rfl)) (by decide) (by decide)) (g := (mkF m 179 #[iv p0, iv p1, iv p2, iv p3, iv c0, iv c1, iv c2, rv b6, rv b30, iv 3, iv 0, iv 0, iv 0, iv 0, iv 0, .unset] [(.int (0 : Int32)), (.int (3 : Int32)), (.ref b30)])) rfl (by rw [hml]; rfl) (argsL := [(.ref b30), (.int (3 : Int32)), (.int (0 : Int32))]) (rest := []) (lenOf pd_15 rfl) rfl (by show 2 * 0 + _ ≤ _; exact Nat.le_of_eq rfl) (hb hby at_179) (fun _ _ => ⟨rfl, rfl, (by decide : 4 + 0 ≤ _), (by decide : 16 + 0 ≤ _)⟩)
    dsimp only [Pt.U, Pt.locs, Pt.cells, Pt.slots] at X440 l440 y440 z440 st440 hQ440
    subst l440 y440 z440
    obtain ⟨rfl, N440q, eh440⟩ := hQ440
    have N440 := Fr.app N37 N440q
    have G441 : ∀ t, Steps p.tables e below (T440.setTop (mkF m 188 #[iv p0, iv p1, iv p2, iv p3, iv c0, iv c1, iv c2, rv b6, rv b30, iv 3, iv 0, iv 0, iv 0, iv 0, iv 0, iv 0] [(.int (0 : Int32)), (.int (0 : Int32))])) t → Steps p.tables e below (s₁.setTop (entryFrame m #[(.int p0), (.int p1), (.int p2), (.int p3)] maxLocals)) t := by
     intro t kt
     refine G439 _ ?_
     refine XS.icmpYes X37.here hx rfl (pc0 := 124) (pc' := 170) rfl (hb hby at_124) rfl (flt (by decide)).2.1 (by decide) (by decide) ?_
     refine XS.iconst X37.here hx rfl (hb hby at_170) ?_
     refine XS.istore X37.here hx rfl (hb hby at_171) rfl (l' := #[iv p0, iv p1, iv p2, iv p3, iv c0, iv c1, iv c2, rv b6, rv b30, iv 3, iv 0, iv 0, iv 0, iv 0, iv 0, .unset]) rfl ?_
     refine XS.aload X37.here hx rfl (hb hby at_173) rfl rfl ?_
     refine XS.iload X37.here hx rfl (hb hby at_175) rfl ?_
     refine XS.iload X37.here hx rfl (hb hby at_177) rfl ?_
     refine st440 _ ?_
     refine XS.istore X440.here hx rfl (hb hby at_182) rfl (l' := #[iv p0, iv p1, iv p2, iv p3, iv c0, iv c1, iv c2, rv b6, rv b30, iv 3, iv 0, iv 0, iv 0, iv 0, iv 0, iv 0]) rfl ?_
     show Steps p.tables e below (T440.setTop (mkF m 184 #[iv p0, iv p1, iv p2, iv p3, iv c0, iv c1, iv c2, rv b6, rv b30, iv 3, iv 0, iv 0, iv 0, iv 0, iv 0, iv 0] [])) _
     refine XS.iload X440.here hx rfl (hb hby at_184) rfl ?_
     refine XS.iload X440.here hx rfl (hb hby at_186) rfl ?_
     exact kt
    obtain ⟨fs, hr, hrun, hended, hW, hsame⟩ := X440.leave (v := some (.int (1 : Int32))) (fun h => by rw [Bd.returns] at h; cases h)
    refine ⟨_, _, G441 _ ?_, hrun, hended, _, _, rfl, ?_, ⟨_, rfl⟩, hW, hsame.mono (by decide) (by decide)⟩
    ·skip
     refine XS.icmpNo X440.here hx rfl (hb hby at_188) rfl (teq (by decide)).2 ?_
     refine XS.iconst X440.here hx rfl (hb hby at_191) ?_
     refine XS.goto X440.here hx rfl (pc0 := 192) (pc' := 196) rfl (hb hby at_192) (by decide) (by decide) ?_
     exact retN X440 hx (t := .boolean) Bd.returns (by simp) (hb hby at_196) hr
    ·show Q0 Z p0 p1 p2 p3 tt ct cst fv h0 n0 _ T440.heap _
     rw [eh440]
     exact ⟨rfl, N440⟩
   ·skip
    have G442 : ∀ t, Steps p.tables e below (T37.setTop (mkF m 66 #[iv p0, iv p1, iv p2, iv p3, iv c0, iv c1, iv c2, rv b6, rv b30, iv 3, iv 1, .unset, .unset, .unset, .unset, .unset] [(.int (3 : Int32))])) t → Steps p.tables e below (s₁.setTop (entryFrame m #[(.int p0), (.int p1), (.int p2), (.int p3)] maxLocals)) t := by
     intro t kt
     refine G255 _ ?_
     show Steps p.tables e below (T37.setTop (mkF m 64 #[iv p0, iv p1, iv p2, iv p3, iv c0, iv c1, iv c2, rv b6, rv b30, iv 3, iv 1, .unset, .unset, .unset, .unset, .unset] [])) _
     refine XS.iload X37.here hx rfl (hb hby at_64) rfl ?_
     exact kt
    have G443 : ∀ t, Steps p.tables e below (T37.setTop (mkF m 85 #[iv p0, iv p1, iv p2, iv p3, iv c0, iv c1, iv c2, rv b6, rv b30, iv 3, iv 1, iv 0, .unset, .unset, .unset, .unset] [(.int (1 : Int32)), (.int (3 : Int32))])) t → Steps p.tables e below (s₁.setTop (entryFrame m #[(.int p0), (.int p1), (.int p2), (.int p3)] maxLocals)) t := by
     intro t kt
     refine G442 _ ?_
     refine XS.ifYes X37.here hx rfl (pc0 := 66) (pc' := 79) rfl (hb hby at_66) rfl ((if0 _ _).trans (tlt (by decide)).2.2.1) (by decide) (by decide) ?_
     refine XS.iconst X37.here hx rfl (hb hby at_79) ?_
     refine XS.istore X37.here hx rfl (hb hby at_80) rfl (l' := #[iv p0, iv p1, iv p2, iv p3, iv c0, iv c1, iv c2, rv b6, rv b30, iv 3, iv 1, iv 0, .unset, .unset, .unset, .unset]) rfl ?_
     refine XS.iload X37.here hx rfl (hb hby at_82) rfl ?_
     refine XS.iconst X37.here hx rfl (hb hby at_84) ?_
     exact kt
    have G444 : ∀ t, Steps p.tables e below (T37.setTop (mkF m 104 #[iv p0, iv p1, iv p2, iv p3, iv c0, iv c1, iv c2, rv b6, rv b30, iv 3, iv 1, iv 0, iv 0, .unset, .unset, .unset] [(.int (2 : Int32)), (.int (3 : Int32))])) t → Steps p.tables e below (s₁.setTop (entryFrame m #[(.int p0), (.int p1), (.int p2), (.int p3)] maxLocals)) t := by
     intro t kt
     refine G443 _ ?_
     refine XS.icmpYes X37.here hx rfl (pc0 := 85) (pc' := 98) rfl (hb hby at_85) rfl (tlt (by decide)).2.2.1 (by decide) (by decide) ?_
     refine XS.iconst X37.here hx rfl (hb hby at_98) ?_
     refine XS.istore X37.here hx rfl (hb hby at_99) rfl (l' := #[iv p0, iv p1, iv p2, iv p3, iv c0, iv c1, iv c2, rv b6, rv b30, iv 3, iv 1, iv 0, iv 0, .unset, .unset, .unset]) rfl ?_
     refine XS.iload X37.here hx rfl (hb hby at_101) rfl ?_
     refine XS.iconst X37.here hx rfl (hb hby at_103) ?_
     exact kt
    have G445 : ∀ t, Steps p.tables e below (T37.setTop (mkF m 124 #[iv p0, iv p1, iv p2, iv p3, iv c0, iv c1, iv c2, rv b6, rv b30, iv 3, iv 1, iv 0, iv 0, iv 0, .unset, .unset] [(.int (1 : Int32)), (.int (3 : Int32))])) t → Steps p.tables e below (s₁.setTop (entryFrame m #[(.int p0), (.int p1), (.int p2), (.int p3)] maxLocals)) t := by
     intro t kt
     refine G444 _ ?_
     refine XS.icmpYes X37.here hx rfl (pc0 := 104) (pc' := 117) rfl (hb hby at_104) rfl (tlt (by decide)).2.2.1 (by decide) (by decide) ?_
     refine XS.iconst X37.here hx rfl (hb hby at_117) ?_
     refine XS.istore X37.here hx rfl (hb hby at_118) rfl (l' := #[iv p0, iv p1, iv p2, iv p3, iv c0, iv c1, iv c2, rv b6, rv b30, iv 3, iv 1, iv 0, iv 0, iv 0, .unset, .unset]) rfl ?_
     refine XS.iload X37.here hx rfl (hb hby at_120) rfl ?_
     refine XS.iload X37.here hx rfl (hb hby at_122) rfl ?_
     exact kt
    obtain ⟨_, _, ⟨T446, L446, k446, n446⟩, -, X446, ⟨Lc446, hQ446, l446, y446, z446⟩, st446⟩ := Jvm.LawKit.callS X37 hx (y := (⟨"com/example/wary_bearer/warybearer/http/Http1Reader", "isToken", "(Ljava/lang/String;II)Z"⟩ : MethodName)) hown (mvT hZ (hw _ (List.mem_of_getElem? (i := 35) rfl))) (mvT hZ (hw _ (List.mem_of_getElem? (i := 36) rfl))) (mvT hZ (hw _ (List.mem_of_getElem? (i := 37) rfl))) (mvT hZ (hw _ (List.mem_of_getElem? (i := 38) rfl))) (by decide) (backOf (W := 0) (rmTok0 l Z a0 hw [] b30 (3 : Int32) (1 : Int32) T37.heap n0 z252 (by decide)) hZ (hw _ (List.mem_of_getElem? (i := 38) rfl)) (hw _ (List.mem_of_getElem? (i := 37) rfl)) (by decide) (by decide)) (g := (mkF m 179 #[iv p0, iv p1, iv p2, iv p3, iv c0, iv c1, iv c2, rv b6, rv b30, iv 3, iv 1, iv 0, iv 0, iv 0, iv 0, .unset] [(.int (1 : Int32)), (.int (3 : Int32)), (.ref b30)])) rfl (by rw [hml]; rfl) (argsL := [(.ref b30), (.int (3 : Int32)), (.int (1 : Int32))]) (rest := []) (lenOf pd_15 rfl) rfl (by show 2 * 0 + _ ≤ _; exact Nat.le_of_eq rfl) (hb hby at_179) (fun _ _ => ⟨rfl, rfl, (by decide : 4 + 0 ≤ _), (by decide : 16 + 0 ≤ _)⟩)
    dsimp only [Pt.U, Pt.locs, Pt.cells, Pt.slots] at X446 l446 y446 z446 st446 hQ446
    subst l446 y446 z446
    obtain ⟨rfl, N446q, eh446⟩ := hQ446
    have N446 := Fr.app N37 N446q
    have G447 : ∀ t, Steps p.tables e below (T446.setTop (mkF m 188 #[iv p0, iv p1, iv p2, iv p3, iv c0, iv c1, iv c2, rv b6, rv b30, iv 3, iv 1, iv 0, iv 0, iv 0, iv 0, iv 0] [(.int (0 : Int32)), (.int (0 : Int32))])) t → Steps p.tables e below (s₁.setTop (entryFrame m #[(.int p0), (.int p1), (.int p2), (.int p3)] maxLocals)) t := by
     intro t kt
     refine G445 _ ?_
     refine XS.icmpYes X37.here hx rfl (pc0 := 124) (pc' := 170) rfl (hb hby at_124) rfl (flt (by decide)).2.1 (by decide) (by decide) ?_
     refine XS.iconst X37.here hx rfl (hb hby at_170) ?_
     refine XS.istore X37.here hx rfl (hb hby at_171) rfl (l' := #[iv p0, iv p1, iv p2, iv p3, iv c0, iv c1, iv c2, rv b6, rv b30, iv 3, iv 1, iv 0, iv 0, iv 0, iv 0, .unset]) rfl ?_
     refine XS.aload X37.here hx rfl (hb hby at_173) rfl rfl ?_
     refine XS.iload X37.here hx rfl (hb hby at_175) rfl ?_
     refine XS.iload X37.here hx rfl (hb hby at_177) rfl ?_
     refine st446 _ ?_
     refine XS.istore X446.here hx rfl (hb hby at_182) rfl (l' := #[iv p0, iv p1, iv p2, iv p3, iv c0, iv c1, iv c2, rv b6, rv b30, iv 3, iv 1, iv 0, iv 0, iv 0, iv 0, iv 0]) rfl ?_
     show Steps p.tables e below (T446.setTop (mkF m 184 #[iv p0, iv p1, iv p2, iv p3, iv c0, iv c1, iv c2, rv b6, rv b30, iv 3, iv 1, iv 0, iv 0, iv 0, iv 0, iv 0] [])) _
     refine XS.iload X446.here hx rfl (hb hby at_184) rfl ?_
     refine XS.iload X446.here hx rfl (hb hby at_186) rfl ?_
     exact kt
    obtain ⟨fs, hr, hrun, hended, hW, hsame⟩ := X446.leave (v := some (.int (1 : Int32))) (fun h => by rw [Bd.returns] at h; cases h)
    refine ⟨_, _, G447 _ ?_, hrun, hended, _, _, rfl, ?_, ⟨_, rfl⟩, hW, hsame.mono (by decide) (by decide)⟩
    ·skip
     refine XS.icmpNo X446.here hx rfl (hb hby at_188) rfl (teq (by decide)).2 ?_
     refine XS.iconst X446.here hx rfl (hb hby at_191) ?_
     refine XS.goto X446.here hx rfl (pc0 := 192) (pc' := 196) rfl (hb hby at_192) (by decide) (by decide) ?_
     exact retN X446 hx (t := .boolean) Bd.returns (by simp) (hb hby at_196) hr
    ·show Q0 Z p0 p1 p2 p3 tt ct cst fv h0 n0 _ T446.heap _
     rw [eh446]
     exact ⟨rfl, N446⟩
   ·skip
    have G448 : ∀ t, Steps p.tables e below (T37.setTop (mkF m 66 #[iv p0, iv p1, iv p2, iv p3, iv c0, iv c1, iv c2, rv b6, rv b30, iv 3, iv 2, .unset, .unset, .unset, .unset, .unset] [(.int (3 : Int32))])) t → Steps p.tables e below (s₁.setTop (entryFrame m #[(.int p0), (.int p1), (.int p2), (.int p3)] maxLocals)) t := by
     intro t kt
     refine G255 _ ?_
     show Steps p.tables e below (T37.setTop (mkF m 64 #[iv p0, iv p1, iv p2, iv p3, iv c0, iv c1, iv c2, rv b6, rv b30, iv 3, iv 2, .unset, .unset, .unset, .unset, .unset] [])) _
     refine XS.iload X37.here hx rfl (hb hby at_64) rfl ?_
     exact kt
    have G449 : ∀ t, Steps p.tables e below (T37.setTop (mkF m 85 #[iv p0, iv p1, iv p2, iv p3, iv c0, iv c1, iv c2, rv b6, rv b30, iv 3, iv 2, iv 0, .unset, .unset, .unset, .unset] [(.int (1 : Int32)), (.int (3 : Int32))])) t → Steps p.tables e below (s₁.setTop (entryFrame m #[(.int p0), (.int p1), (.int p2), (.int p3)] maxLocals)) t := by
     intro t kt
     refine G448 _ ?_
     refine XS.ifYes X37.here hx rfl (pc0 := 66) (pc' := 79) rfl (hb hby at_66) rfl ((if0 _ _).trans (tlt (by decide)).2.2.1) (by decide) (by decide) ?_
     refine XS.iconst X37.here hx rfl (hb hby at_79) ?_
     refine XS.istore X37.here hx rfl (hb hby at_80) rfl (l' := #[iv p0, iv p1, iv p2, iv p3, iv c0, iv c1, iv c2, rv b6, rv b30, iv 3, iv 2, iv 0, .unset, .unset, .unset, .unset]) rfl ?_
     refine XS.iload X37.here hx rfl (hb hby at_82) rfl ?_
     refine XS.iconst X37.here hx rfl (hb hby at_84) ?_
     exact kt
    have G450 : ∀ t, Steps p.tables e below (T37.setTop (mkF m 104 #[iv p0, iv p1, iv p2, iv p3, iv c0, iv c1, iv c2, rv b6, rv b30, iv 3, iv 2, iv 0, iv 0, .unset, .unset, .unset] [(.int (2 : Int32)), (.int (3 : Int32))])) t → Steps p.tables e below (s₁.setTop (entryFrame m #[(.int p0), (.int p1), (.int p2), (.int p3)] maxLocals)) t := by
     intro t kt
     refine G449 _ ?_
     refine XS.icmpYes X37.here hx rfl (pc0 := 85) (pc' := 98) rfl (hb hby at_85) rfl (tlt (by decide)).2.2.1 (by decide) (by decide) ?_
     refine XS.iconst X37.here hx rfl (hb hby at_98) ?_
     refine XS.istore X37.here hx rfl (hb hby at_99) rfl (l' := #[iv p0, iv p1, iv p2, iv p3, iv c0, iv c1, iv c2, rv b6, rv b30, iv 3, iv 2, iv 0, iv 0, .unset, .unset, .unset]) rfl ?_
     refine XS.iload X37.here hx rfl (hb hby at_101) rfl ?_
     refine XS.iconst X37.here hx rfl (hb hby at_103) ?_
     exact kt
    have G451 : ∀ t, Steps p.tables e below (T37.setTop (mkF m 124 #[iv p0, iv p1, iv p2, iv p3, iv c0, iv c1, iv c2, rv b6, rv b30, iv 3, iv 2, iv 0, iv 0, iv 0, .unset, .unset] [(.int (2 : Int32)), (.int (3 : Int32))])) t → Steps p.tables e below (s₁.setTop (entryFrame m #[(.int p0), (.int p1), (.int p2), (.int p3)] maxLocals)) t := by
     intro t kt
     refine G450 _ ?_
     refine XS.icmpYes X37.here hx rfl (pc0 := 104) (pc' := 117) rfl (hb hby at_104) rfl (tlt (by decide)).2.2.1 (by decide) (by decide) ?_
     refine XS.iconst X37.here hx rfl (hb hby at_117) ?_
     refine XS.istore X37.here hx rfl (hb hby at_118) rfl (l' := #[iv p0, iv p1, iv p2, iv p3, iv c0, iv c1, iv c2, rv b6, rv b30, iv 3, iv 2, iv 0, iv 0, iv 0, .unset, .unset]) rfl ?_
     refine XS.iload X37.here hx rfl (hb hby at_120) rfl ?_
     refine XS.iload X37.here hx rfl (hb hby at_122) rfl ?_
     exact kt
    obtain ⟨_, _, ⟨T452, L452, k452, n452⟩, -, X452, ⟨Lc452, hQ452, l452, y452, z452⟩, st452⟩ := Jvm.LawKit.callS X37 hx (y := (⟨"com/example/wary_bearer/warybearer/http/Http1Reader", "isToken", "(Ljava/lang/String;II)Z"⟩ : MethodName)) hown (mvT hZ (hw _ (List.mem_of_getElem? (i := 35) rfl))) (mvT hZ (hw _ (List.mem_of_getElem? (i := 36) rfl))) (mvT hZ (hw _ (List.mem_of_getElem? (i := 37) rfl))) (mvT hZ (hw _ (List.mem_of_getElem? (i := 38) rfl))) (by decide) (backOf (W := 0) (rmTok0 l Z a0 hw [] b30 (3 : Int32) (2 : Int32) T37.heap n0 z252 (by decide)) hZ (hw _ (List.mem_of_getElem? (i := 38) rfl)) (hw _ (List.mem_of_getElem? (i := 37) rfl)) (by decide) (by decide)) (g := (mkF m 179 #[iv p0, iv p1, iv p2, iv p3, iv c0, iv c1, iv c2, rv b6, rv b30, iv 3, iv 2, iv 0, iv 0, iv 0, iv 0, .unset] [(.int (2 : Int32)), (.int (3 : Int32)), (.ref b30)])) rfl (by rw [hml]; rfl) (argsL := [(.ref b30), (.int (3 : Int32)), (.int (2 : Int32))]) (rest := []) (lenOf pd_15 rfl) rfl (by show 2 * 0 + _ ≤ _; exact Nat.le_of_eq rfl) (hb hby at_179) (fun _ _ => ⟨rfl, rfl, (by decide : 4 + 0 ≤ _), (by decide : 16 + 0 ≤ _)⟩)
    dsimp only [Pt.U, Pt.locs, Pt.cells, Pt.slots] at X452 l452 y452 z452 st452 hQ452
    subst l452 y452 z452
    obtain ⟨rfl, N452q, eh452⟩ := hQ452
    have N452 := Fr.app N37 N452q
    have G453 : ∀ t, Steps p.tables e below (T452.setTop (mkF m 188 #[iv p0, iv p1, iv p2, iv p3, iv c0, iv c1, iv c2, rv b6, rv b30, iv 3, iv 2, iv 0, iv 0, iv 0, iv 0, iv 0] [(.int (0 : Int32)), (.int (0 : Int32))])) t → Steps p.tables e below (s₁.setTop (entryFrame m #[(.int p0), (.int p1), (.int p2), (.int p3)] maxLocals)) t := by
     intro t kt
     refine G451 _ ?_
     refine XS.icmpYes X37.here hx rfl (pc0 := 124) (pc' := 170) rfl (hb hby at_124) rfl (flt (by decide)).2.1 (by decide) (by decide) ?_
     refine XS.iconst X37.here hx rfl (hb hby at_170) ?_
     refine XS.istore X37.here hx rfl (hb hby at_171) rfl (l' := #[iv p0, iv p1, iv p2, iv p3, iv c0, iv c1, iv c2, rv b6, rv b30, iv 3, iv 2, iv 0, iv 0, iv 0, iv 0, .unset]) rfl ?_
     refine XS.aload X37.here hx rfl (hb hby at_173) rfl rfl ?_
     refine XS.iload X37.here hx rfl (hb hby at_175) rfl ?_
     refine XS.iload X37.here hx rfl (hb hby at_177) rfl ?_
     refine st452 _ ?_
     refine XS.istore X452.here hx rfl (hb hby at_182) rfl (l' := #[iv p0, iv p1, iv p2, iv p3, iv c0, iv c1, iv c2, rv b6, rv b30, iv 3, iv 2, iv 0, iv 0, iv 0, iv 0, iv 0]) rfl ?_
     show Steps p.tables e below (T452.setTop (mkF m 184 #[iv p0, iv p1, iv p2, iv p3, iv c0, iv c1, iv c2, rv b6, rv b30, iv 3, iv 2, iv 0, iv 0, iv 0, iv 0, iv 0] [])) _
     refine XS.iload X452.here hx rfl (hb hby at_184) rfl ?_
     refine XS.iload X452.here hx rfl (hb hby at_186) rfl ?_
     exact kt
    obtain ⟨fs, hr, hrun, hended, hW, hsame⟩ := X452.leave (v := some (.int (1 : Int32))) (fun h => by rw [Bd.returns] at h; cases h)
    refine ⟨_, _, G453 _ ?_, hrun, hended, _, _, rfl, ?_, ⟨_, rfl⟩, hW, hsame.mono (by decide) (by decide)⟩
    ·skip
     refine XS.icmpNo X452.here hx rfl (hb hby at_188) rfl (teq (by decide)).2 ?_
     refine XS.iconst X452.here hx rfl (hb hby at_191) ?_
     refine XS.goto X452.here hx rfl (pc0 := 192) (pc' := 196) rfl (hb hby at_192) (by decide) (by decide) ?_
     exact retN X452 hx (t := .boolean) Bd.returns (by simp) (hb hby at_196) hr
    ·show Q0 Z p0 p1 p2 p3 tt ct cst fv h0 n0 _ T452.heap _
     rw [eh452]
     exact ⟨rfl, N452⟩
   ·skip
    have G454 : ∀ t, Steps p.tables e below (T37.setTop (mkF m 66 #[iv p0, iv p1, iv p2, iv p3, iv c0, iv c1, iv c2, rv b6, rv b30, iv 3, iv 3, .unset, .unset, .unset, .unset, .unset] [(.int (3 : Int32))])) t → Steps p.tables e below (s₁.setTop (entryFrame m #[(.int p0), (.int p1), (.int p2), (.int p3)] maxLocals)) t := by
     intro t kt
     refine G255 _ ?_
     show Steps p.tables e below (T37.setTop (mkF m 64 #[iv p0, iv p1, iv p2, iv p3, iv c0, iv c1, iv c2, rv b6, rv b30, iv 3, iv 3, .unset, .unset, .unset, .unset, .unset] [])) _
     refine XS.iload X37.here hx rfl (hb hby at_64) rfl ?_
     exact kt
    have G455 : ∀ t, Steps p.tables e below (T37.setTop (mkF m 85 #[iv p0, iv p1, iv p2, iv p3, iv c0, iv c1, iv c2, rv b6, rv b30, iv 3, iv 3, iv 0, .unset, .unset, .unset, .unset] [(.int (1 : Int32)), (.int (3 : Int32))])) t → Steps p.tables e below (s₁.setTop (entryFrame m #[(.int p0), (.int p1), (.int p2), (.int p3)] maxLocals)) t := by
     intro t kt
     refine G454 _ ?_
     refine XS.ifYes X37.here hx rfl (pc0 := 66) (pc' := 79) rfl (hb hby at_66) rfl ((if0 _ _).trans (tlt (by decide)).2.2.1) (by decide) (by decide) ?_
     refine XS.iconst X37.here hx rfl (hb hby at_79) ?_
     refine XS.istore X37.here hx rfl (hb hby at_80) rfl (l' := #[iv p0, iv p1, iv p2, iv p3, iv c0, iv c1, iv c2, rv b6, rv b30, iv 3, iv 3, iv 0, .unset, .unset, .unset, .unset]) rfl ?_
     refine XS.iload X37.here hx rfl (hb hby at_82) rfl ?_
     refine XS.iconst X37.here hx rfl (hb hby at_84) ?_
     exact kt
    have G456 : ∀ t, Steps p.tables e below (T37.setTop (mkF m 104 #[iv p0, iv p1, iv p2, iv p3, iv c0, iv c1, iv c2, rv b6, rv b30, iv 3, iv 3, iv 0, iv 0, .unset, .unset, .unset] [(.int (2 : Int32)), (.int (3 : Int32))])) t → Steps p.tables e below (s₁.setTop (entryFrame m #[(.int p0), (.int p1), (.int p2), (.int p3)] maxLocals)) t := by
     intro t kt
     refine G455 _ ?_
     refine XS.icmpYes X37.here hx rfl (pc0 := 85) (pc' := 98) rfl (hb hby at_85) rfl (tlt (by decide)).2.2.1 (by decide) (by decide) ?_
     refine XS.iconst X37.here hx rfl (hb hby at_98) ?_
     refine XS.istore X37.here hx rfl (hb hby at_99) rfl (l' := #[iv p0, iv p1, iv p2, iv p3, iv c0, iv c1, iv c2, rv b6, rv b30, iv 3, iv 3, iv 0, iv 0, .unset, .unset, .unset]) rfl ?_
     refine XS.iload X37.here hx rfl (hb hby at_101) rfl ?_
     refine XS.iconst X37.here hx rfl (hb hby at_103) ?_
     exact kt
    have G457 : ∀ t, Steps p.tables e below (T37.setTop (mkF m 124 #[iv p0, iv p1, iv p2, iv p3, iv c0, iv c1, iv c2, rv b6, rv b30, iv 3, iv 3, iv 0, iv 0, iv 0, .unset, .unset] [(.int (3 : Int32)), (.int (3 : Int32))])) t → Steps p.tables e below (s₁.setTop (entryFrame m #[(.int p0), (.int p1), (.int p2), (.int p3)] maxLocals)) t := by
     intro t kt
     refine G456 _ ?_
     refine XS.icmpYes X37.here hx rfl (pc0 := 104) (pc' := 117) rfl (hb hby at_104) rfl (tlt (by decide)).2.2.1 (by decide) (by decide) ?_
     refine XS.iconst X37.here hx rfl (hb hby at_117) ?_
     refine XS.istore X37.here hx rfl (hb hby at_118) rfl (l' := #[iv p0, iv p1, iv p2, iv p3, iv c0, iv c1, iv c2, rv b6, rv b30, iv 3, iv 3, iv 0, iv 0, iv 0, .unset, .unset]) rfl ?_
     refine XS.iload X37.here hx rfl (hb hby at_120) rfl ?_
     refine XS.iload X37.here hx rfl (hb hby at_122) rfl ?_
     exact kt
    obtain ⟨_, _, ⟨T458, L458, k458, n458⟩, -, X458, ⟨Lc458, hQ458, l458, y458, z458⟩, st458⟩ := Jvm.LawKit.callS X37 hx (y := (⟨"com/example/wary_bearer/warybearer/http/Http1Reader", "isToken", "(Ljava/lang/String;II)Z"⟩ : MethodName)) hown (mvT hZ (hw _ (List.mem_of_getElem? (i := 35) rfl))) (mvT hZ (hw _ (List.mem_of_getElem? (i := 36) rfl))) (mvT hZ (hw _ (List.mem_of_getElem? (i := 37) rfl))) (mvT hZ (hw _ (List.mem_of_getElem? (i := 38) rfl))) (by decide) (backOf (W := 0) (rmTok0 l Z a0 hw [] b30 (3 : Int32) (3 : Int32) T37.heap n0 z252 (by decide)) hZ (hw _ (List.mem_of_getElem? (i := 38) rfl)) (hw _ (List.mem_of_getElem? (i := 37) rfl)) (by decide) (by decide)) (g := (mkF m 179 #[iv p0, iv p1, iv p2, iv p3, iv c0, iv c1, iv c2, rv b6, rv b30, iv 3, iv 3, iv 0, iv 0, iv 0, iv 0, .unset] [(.int (3 : Int32)), (.int (3 : Int32)), (.ref b30)])) rfl (by rw [hml]; rfl) (argsL := [(.ref b30), (.int (3 : Int32)), (.int (3 : Int32))]) (rest := []) (lenOf pd_15 rfl) rfl (by show 2 * 0 + _ ≤ _; exact Nat.le_of_eq rfl) (hb hby at_179) (fun _ _ => ⟨rfl, rfl, (by decide : 4 + 0 ≤ _), (by decide : 16 + 0 ≤ _)⟩)
    dsimp only [Pt.U, Pt.locs, Pt.cells, Pt.slots] at X458 l458 y458 z458 st458 hQ458
    subst l458 y458 z458
    obtain ⟨rfl, N458q, eh458⟩ := hQ458
    have N458 := Fr.app N37 N458q
    have G459 : ∀ t, Steps p.tables e below (T458.setTop (mkF m 188 #[iv p0, iv p1, iv p2, iv p3, iv c0, iv c1, iv c2, rv b6, rv b30, iv 3, iv 3, iv 0, iv 0, iv 0, iv 0, iv 0] [(.int (0 : Int32)), (.int (0 : Int32))])) t → Steps p.tables e below (s₁.setTop (entryFrame m #[(.int p0), (.int p1), (.int p2), (.int p3)] maxLocals)) t := by
     intro t kt
     refine G457 _ ?_
     refine XS.icmpYes X37.here hx rfl (pc0 := 124) (pc' := 170) rfl (hb hby at_124) rfl (flt (by decide)).2.1 (by decide) (by decide) ?_
     refine XS.iconst X37.here hx rfl (hb hby at_170) ?_
     refine XS.istore X37.here hx rfl (hb hby at_171) rfl (l' := #[iv p0, iv p1, iv p2, iv p3, iv c0, iv c1, iv c2, rv b6, rv b30, iv 3, iv 3, iv 0, iv 0, iv 0, iv 0, .unset]) rfl ?_
     refine XS.aload X37.here hx rfl (hb hby at_173) rfl rfl ?_
     refine XS.iload X37.here hx rfl (hb hby at_175) rfl ?_
     refine XS.iload X37.here hx rfl (hb hby at_177) rfl ?_
     refine st458 _ ?_
     refine XS.istore X458.here hx rfl (hb hby at_182) rfl (l' := #[iv p0, iv p1, iv p2, iv p3, iv c0, iv c1, iv c2, rv b6, rv b30, iv 3, iv 3, iv 0, iv 0, iv 0, iv 0, iv 0]) rfl ?_
     show Steps p.tables e below (T458.setTop (mkF m 184 #[iv p0, iv p1, iv p2, iv p3, iv c0, iv c1, iv c2, rv b6, rv b30, iv 3, iv 3, iv 0, iv 0, iv 0, iv 0, iv 0] [])) _
     refine XS.iload X458.here hx rfl (hb hby at_184) rfl ?_
     refine XS.iload X458.here hx rfl (hb hby at_186) rfl ?_
     exact kt
    obtain ⟨fs, hr, hrun, hended, hW, hsame⟩ := X458.leave (v := some (.int (1 : Int32))) (fun h => by rw [Bd.returns] at h; cases h)
    refine ⟨_, _, G459 _ ?_, hrun, hended, _, _, rfl, ?_, ⟨_, rfl⟩, hW, hsame.mono (by decide) (by decide)⟩
    ·skip
     refine XS.icmpNo X458.here hx rfl (hb hby at_188) rfl (teq (by decide)).2 ?_
     refine XS.iconst X458.here hx rfl (hb hby at_191) ?_
     refine XS.goto X458.here hx rfl (pc0 := 192) (pc' := 196) rfl (hb hby at_192) (by decide) (by decide) ?_
     exact retN X458 hx (t := .boolean) Bd.returns (by simp) (hb hby at_196) hr
    ·show Q0 Z p0 p1 p2 p3 tt ct cst fv h0 n0 _ T458.heap _
     rw [eh458]
     exact ⟨rfl, N458⟩
theorem own_eqI {args : Array Value} {s : State} {t : Term} {k : Int32} {idx : List Nat} (h : (Jvm.Cond.eq t (Jvm.Term.int k)).value args s none s idx = some true) : t.eval args s none idx s = some (.int k) := by
  simp only [Cond.value, Term.eval] at h
  cases ht : t.eval args s none idx s with
  | none => simp [ht] at h
  | some x => cases x <;> simp [ht] at h ⊢; exact h
theorem own_len {args : Array Value} {s : State} {t : Term} {x : Addr} {cl : Cell} {k : Int32} (h : (Term.length t).eval args s none [] s = some (.int k)) (ht : t.eval args s none [] s = some (.ref x)) (ha : s.arrayAt? x = some cl) : cl.slots.size < 2 ^ 31 ∧ cl.slots.size.toInt32 = k := by
  by_cases hl : cl.slots.size < 2 ^ 31
  · rw [len_f ht ha hl] at h
    exact ⟨hl, Value.int.inj (Option.some.inj h)⟩
  · exfalso
    simp [Term.eval, ht, ha, hl] at h
theorem own_fold {α : Type} (f : α → Option Bool) : ∀ (l : List α) (a : Option Bool), l.foldl (fun acc i => match acc with | some true => f i | x => x) a = some true → a = some true ∧ ∀ i ∈ l, f i = some true
  | [], a, h => ⟨h, fun i hi => by cases hi⟩
  | x :: r, a, h => by
    obtain ⟨h1, h2⟩ := own_fold f r _ h
    match a, h1 with
    | some true, h1 => exact ⟨rfl, fun i hi => by rcases List.mem_cons.mp hi with rfl | hi; exact h1; exact h2 i hi⟩
theorem own_all {args : Array Value} {s : State} {t : Term} {cd : Jvm.Cond} {x : Addr} {cl : Cell} (h : (Jvm.Cond.all t cd).value args s none s [] = some true) (ht : t.eval args s none [] s = some (.ref x)) (ha : s.arrayAt? x = some cl) (i : Nat) (hi : i < cl.slots.size) : cd.value args s none s [i] = some true := by
  simp only [Cond.value, ht, ha] at h
  exact (own_fold _ _ _ h).2 i (List.mem_range.mpr hi)
theorem own_or {args : Array Value} {s : State} {a b : Jvm.Cond} {idx : List Nat} (h : (Jvm.Cond.or a b).value args s none s idx = some true) (ha : a.value args s none s idx = some false) : b.value args s none s idx = some true := by
  simp only [Cond.value, ha] at h
  exact h
theorem own_ix {args : Array Value} {s : State} {i : Nat} : (Term.index 0).eval args s none [i] s = some (.int i.toInt32) := Term.index_eval _
theorem own_slot {args : Array Value} {s : State} {t : Term} {x : Addr} {cl : Cell} {k : Int32} {i : Nat} (hi : i < 128) (h : (Jvm.Cond.eq (Term.elem t (Term.index 0)) (Jvm.Term.int k)).value args s none s [i] = some true) (ht : t.eval args s none [i] s = some (.ref x)) (hc : s.heap[x]? = some cl) : cl.slots[i]? = some (.int k) := by
  have q := (elem_in (own_eqI h) ht own_ix hc).2
  have e : (Nat.toInt32 i).toNatClampNeg = i := by simp only [Int32.toNatClampNeg, len_toInt (show i < 2 ^ 31 by omega)]; rfl
  rw [e] at q
  exact q
theorem own_le {args : Array Value} {s : State} {k : Int32} {K : Int} {i : Nat} (hi : i < 128) (hk : k.toInt = K) (h : (i : Int) < K) : (Jvm.Cond.le (Jvm.Term.int k) (Term.index 0)).value args s none s [i] = some false := by
  rw [Cond.le_ints (x := k) (y := i.toInt32) rfl own_ix]
  have e := len_toInt (show i < 2 ^ 31 by omega)
  rw [decide_eq_false (by rw [Int32.le_iff_toInt_le, e, hk]; omega)]
theorem own_lt {args : Array Value} {s : State} {k : Int32} {K : Int} {i : Nat} (hi : i < 128) (hk : k.toInt = K) (h : K ≤ (i : Int)) : (Jvm.Cond.lt (Term.index 0) (Jvm.Term.int k)).value args s none s [i] = some false := by
  rw [Cond.lt_ints (x := i.toInt32) (y := k) own_ix rfl]
  have e := len_toInt (show i < 2 ^ 31 by omega)
  rw [decide_eq_false (by rw [Int32.lt_iff_toInt_lt, e, hk]; omega)]
set_option maxRecDepth 65536 in
set_option maxHeartbeats 40000000 in
theorem comes_1 {Post : Tables → Env → Array Value → State → Outcome → State → Prop} (hpost : ∀ tb e args s v u, (limb_1_1.after args s (.returned v) u = true ∧ limb_1_2.after args s (.returned v) u = true ∧ True) → FrameEnd s (.returned v) u (Jvm.fieldLocs frame_1_writes args s ++ Jvm.arrayLocs frame_1_arrays args s ++ Jvm.staticLocs frame_1_statics s) 16 128 → Post tb e args s (.returned v) u) :
    ArmFor flags0 classFile x code maxLocals ret World_1 tables_1 room_1 Calls_1 rest_1 Pre_1 Post := by
  intro l hfl _ _ p e ha hc hk s m args below hf hA hF happ hP
  obtain ⟨hcalls, hrest, hpre⟩ := hP
  obtain ⟨-, -, -, hnamed, -, -, -, hat⟩ := (Spec.applies_iff hf).mp happ
  obtain ⟨hg, hn⟩ := and_e (Cond.before_iff.mp (show (Jvm.Cond.and given_1 narrow_1).before args s = true from hpre))
  obtain ⟨g1, g2⟩ := and_e hg
  obtain ⟨g3, g4⟩ := and_e g2
  obtain ⟨g5, g6⟩ := and_e g4
  obtain ⟨g7, g8⟩ := and_e g6
  obtain ⟨w0, w1, w2, w3, rfl⟩ : ∃ w0 w1 w2 w3 : Value, args = #[w0, w1, w2, w3] := by
    have hs : args.size = 4 := by simpa [Cond.value, given_1] using g1
    obtain ⟨L⟩ := args
    match L, hs with
    | [w0, w1, w2, w3], _ => exact ⟨w0, w1, w2, w3, rfl⟩
  have hw := fun d (hd : d ∈ tables_1) => atoms_spec (ws := Jvm.Cond.code x code maxLocals ret :: tables_1) hat d (List.mem_cons_of_mem _ hd)
  have hfit : Fit s := fun {y c} hc i hi => by
    obtain ⟨ha, rfl⟩ := Array.getElem?_eq_some_iff.mp hc
    have q := List.all_eq_true.mp ((Array.all_eq_true_iff_forall_mem.mp hF) _ (Array.getElem_mem ha)) i (List.mem_range.mpr hi)
    simpa [Array.getElem?_eq_getElem hi] using q
  obtain ⟨hsets, hown0⟩ := atoms_of _ (rest_1_c_eq ▸ (show rest_1_c.before _ s = true from hrest))
  have hr0 := Cond.before_iff.mp hown0
  obtain ⟨i0, ei0⟩ := is_v g3
  obtain rfl : w0 = (.int i0) := Option.some.inj ei0
  obtain ⟨i1, ei1⟩ := is_v g5
  obtain rfl : w1 = (.int i1) := Option.some.inj ei1
  obtain ⟨i2, ei2⟩ := is_v g7
  obtain rfl : w2 = (.int i2) := Option.some.inj ei2
  obtain ⟨i3, ei3⟩ := is_v g8
  obtain rfl : w3 = (.int i3) := Option.some.inj ei3
  obtain ⟨m1a, m1b⟩ := and_e hn
  obtain ⟨m2a, m2b⟩ := and_e m1b
  obtain ⟨m3a, m3b⟩ := and_e m2b
  obtain ⟨m4a, m4b⟩ := and_e m3b
  obtain ⟨m5a, m5b⟩ := and_e m4b
  obtain ⟨m6a, m6b⟩ := and_e m5b
  obtain ⟨m7a, m7b⟩ := and_e m6b
  obtain ⟨m8a, m8b⟩ := and_e m7b
  obtain ⟨m9a, m9b⟩ := and_e m8b
  obtain ⟨m10a, m10b⟩ := and_e m9b
  obtain ⟨m11a, m11b⟩ := and_e m10b
  obtain ⟨m12a, m12b⟩ := and_e m11b
  obtain ⟨m13a, m13b⟩ := and_e m12b
  obtain ⟨m14a, m14b⟩ := and_e m13b
  obtain ⟨m15a, m15b⟩ := and_e m14b
  obtain ⟨m16a, m16b⟩ := and_e m15b
  obtain ⟨m17a, m17b⟩ := and_e m16b
  obtain ⟨m18a, m18b⟩ := and_e m17b
  obtain ⟨m19a, m19b⟩ := and_e m18b
  obtain ⟨m20a, m20b⟩ := and_e m19b
  obtain ⟨m21a, m21b⟩ := and_e m20b
  obtain ⟨m22a, m22b⟩ := and_e m21b
  obtain ⟨m23a, m23b⟩ := and_e m22b
  obtain ⟨m24a, m24b⟩ := and_e m23b
  obtain ⟨m25a, m25b⟩ := and_e m24b
  obtain ⟨tt, evT⟩ := arr_v m1a
  obtain ⟨ct, TA⟩ := Arr.start evT m1a
  have TS := Sta.start evT (Or.inr ⟨(hw _ (List.mem_of_getElem? (i := 37) rfl)), (hw _ (List.mem_of_getElem? (i := 90) rfl))⟩)
  obtain ⟨lz1, lz2⟩ := own_len (own_eqI m2a) evT (TA.fin (Vm.Alike.refl _))
  have TS1 : ct.slots.size = 128 := by have e := len_toInt lz1; rw [lz2] at e; have e2 : (128 : Int32).toInt = 128 := (by decide); omega
  have TS2 : ct.slots.size = (128 : Int32).toNatClampNeg := TS1
  have TF := TA.fin (Vm.Alike.refl _)
  have TV : ∀ j : Int32, ¬ (j < (0 : Int32)) → j < (128 : Int32) → ct.slots[j.toNatClampNeg]? = some (.int (fisT j)) := by
    intro j h0 h1
    have e0 : (0 : Int32).toInt = 0 := by decide
    have e1 : (128 : Int32).toInt = 128 := by decide
    rw [Int32.lt_iff_toInt_lt, e0] at h0
    rw [Int32.lt_iff_toInt_lt, e1] at h1
    have ej : j.toNatClampNeg = j.toInt.toNat := rfl
    have hi : j.toNatClampNeg < 128 := by omega
    have hs : j.toNatClampNeg < ct.slots.size := by omega
    by_cases g0 : j.toInt < 33
    · exact by rw [(own_isT j).2 (by omega)]; exact own_slot hi (own_or (own_all m3a evT TF _ hs) (own_le hi (K := 33) (by decide) (by omega))) evT TA.1
    by_cases g1 : j.toInt < 34
    · exact by rw [(own_isT j).1 (by omega), show j.toNatClampNeg = 33 by omega]; exact (elem_in (own_eqI m4a) evT (Term.int_eval _) TA.1).2
    by_cases g2 : j.toInt < 35
    · exact by rw [(own_isT j).2 (by omega), show j.toNatClampNeg = 34 by omega]; exact (elem_in (own_eqI m5a) evT (Term.int_eval _) TA.1).2
    by_cases g3 : j.toInt < 40
    · exact by rw [(own_isT j).1 (by omega)]; exact own_slot hi (own_or (own_or (own_all m6a evT TF _ hs) (own_lt hi (K := 35) (by decide) (by omega))) (own_le hi (K := 40) (by decide) (by omega))) evT TA.1
    by_cases g4 : j.toInt < 41
    · exact by rw [(own_isT j).2 (by omega), show j.toNatClampNeg = 40 by omega]; exact (elem_in (own_eqI m7a) evT (Term.int_eval _) TA.1).2
    by_cases g5 : j.toInt < 42
    · exact by rw [(own_isT j).2 (by omega), show j.toNatClampNeg = 41 by omega]; exact (elem_in (own_eqI m8a) evT (Term.int_eval _) TA.1).2
    by_cases g6 : j.toInt < 43
    · exact by rw [(own_isT j).1 (by omega), show j.toNatClampNeg = 42 by omega]; exact (elem_in (own_eqI m9a) evT (Term.int_eval _) TA.1).2
    by_cases g7 : j.toInt < 44
    · exact by rw [(own_isT j).1 (by omega), show j.toNatClampNeg = 43 by omega]; exact (elem_in (own_eqI m10a) evT (Term.int_eval _) TA.1).2
    by_cases g8 : j.toInt < 45
    · exact by rw [(own_isT j).2 (by omega), show j.toNatClampNeg = 44 by omega]; exact (elem_in (own_eqI m11a) evT (Term.int_eval _) TA.1).2
    by_cases g9 : j.toInt < 46
    · exact by rw [(own_isT j).1 (by omega), show j.toNatClampNeg = 45 by omega]; exact (elem_in (own_eqI m12a) evT (Term.int_eval _) TA.1).2
    by_cases g10 : j.toInt < 47
    · exact by rw [(own_isT j).1 (by omega), show j.toNatClampNeg = 46 by omega]; exact (elem_in (own_eqI m13a) evT (Term.int_eval _) TA.1).2
    by_cases g11 : j.toInt < 48
    · exact by rw [(own_isT j).2 (by omega), show j.toNatClampNeg = 47 by omega]; exact (elem_in (own_eqI m14a) evT (Term.int_eval _) TA.1).2
    by_cases g12 : j.toInt < 58
    · exact by rw [(own_isT j).1 (by omega)]; exact own_slot hi (own_or (own_or (own_all m15a evT TF _ hs) (own_lt hi (K := 48) (by decide) (by omega))) (own_le hi (K := 58) (by decide) (by omega))) evT TA.1
    by_cases g13 : j.toInt < 65
    · exact by rw [(own_isT j).2 (by omega)]; exact own_slot hi (own_or (own_or (own_all m16a evT TF _ hs) (own_lt hi (K := 58) (by decide) (by omega))) (own_le hi (K := 65) (by decide) (by omega))) evT TA.1
    by_cases g14 : j.toInt < 91
    · exact by rw [(own_isT j).1 (by omega)]; exact own_slot hi (own_or (own_or (own_all m17a evT TF _ hs) (own_lt hi (K := 65) (by decide) (by omega))) (own_le hi (K := 91) (by decide) (by omega))) evT TA.1
    by_cases g15 : j.toInt < 92
    · exact by rw [(own_isT j).2 (by omega), show j.toNatClampNeg = 91 by omega]; exact (elem_in (own_eqI m18a) evT (Term.int_eval _) TA.1).2
    by_cases g16 : j.toInt < 93
    · exact by rw [(own_isT j).2 (by omega), show j.toNatClampNeg = 92 by omega]; exact (elem_in (own_eqI m19a) evT (Term.int_eval _) TA.1).2
    by_cases g17 : j.toInt < 94
    · exact by rw [(own_isT j).2 (by omega), show j.toNatClampNeg = 93 by omega]; exact (elem_in (own_eqI m20a) evT (Term.int_eval _) TA.1).2
    by_cases g18 : j.toInt < 123
    · exact by rw [(own_isT j).1 (by omega)]; exact own_slot hi (own_or (own_or (own_all m21a evT TF _ hs) (own_lt hi (K := 94) (by decide) (by omega))) (own_le hi (K := 123) (by decide) (by omega))) evT TA.1
    by_cases g19 : j.toInt < 124
    · exact by rw [(own_isT j).2 (by omega), show j.toNatClampNeg = 123 by omega]; exact (elem_in (own_eqI m22a) evT (Term.int_eval _) TA.1).2
    by_cases g20 : j.toInt < 125
    · exact by rw [(own_isT j).1 (by omega), show j.toNatClampNeg = 124 by omega]; exact (elem_in (own_eqI m23a) evT (Term.int_eval _) TA.1).2
    by_cases g21 : j.toInt < 126
    · exact by rw [(own_isT j).2 (by omega), show j.toNatClampNeg = 125 by omega]; exact (elem_in (own_eqI m24a) evT (Term.int_eval _) TA.1).2
    by_cases g22 : j.toInt < 127
    · exact by rw [(own_isT j).1 (by omega), show j.toNatClampNeg = 126 by omega]; exact (elem_in (own_eqI m25a) evT (Term.int_eval _) TA.1).2
    exact by rw [(own_isT j).2 (by omega), show j.toNatClampNeg = 127 by omega]; exact (elem_in (own_eqI m25b) evT (Term.int_eval _) TA.1).2
  obtain ⟨cst, evc⟩ := is_v (Cond.before_iff.mp (hsets _ (List.mem_of_getElem? (i := 1) rfl)))
  have SC := Sta.start evc (Or.inl (hsets _ (List.mem_of_getElem? (i := 0) rfl)))
  have hcst : ¬ (cst = (0 : Int32)) := fun q => by
    have z := not_v (Cond.before_iff.mp (hsets _ (List.mem_of_getElem? (i := 2) rfl)))
    rw [Cond.eq_ints evc (Term.int_eval _), decide_eq_true q] at z
    cases z
  obtain ⟨fv, evf, hfv⟩ := isR_v (Cond.before_iff.mp (hsets _ (List.mem_of_getElem? (i := 8) rfl)))
  have SF := Sta.start evf (Or.inl (hsets _ (List.mem_of_getElem? (i := 7) rfl)))
  have S1 := Sta.start (own_eqI (Cond.before_iff.mp (hsets _ (List.mem_of_getElem? (i := 12) rfl)))) (Or.inl (hsets _ (List.mem_of_getElem? (i := 11) rfl)))
  have S2 := Sta.start (own_eqI (Cond.before_iff.mp (hsets _ (List.mem_of_getElem? (i := 15) rfl)))) (Or.inl (hsets _ (List.mem_of_getElem? (i := 14) rfl)))
  have S3 := Sta.start (own_eqI (Cond.before_iff.mp (hsets _ (List.mem_of_getElem? (i := 18) rfl)))) (Or.inl (hsets _ (List.mem_of_getElem? (i := 17) rfl)))
  have SS : Sts s cst fv := ⟨SC, hcst, S1, S2, S3, SF, hfv⟩
  have O0 := Old.start s
  obtain ⟨n, o, h1, h2, h3, _, L, rfl, ⟨rfl, N⟩, hq⟩ := rm0 l s _ hw tables_1 i0 i1 i2 i3 tt ct cst fv s.heap s.heap.size (Nat.le_refl _) O0 TS TA TS2 TV SS p e ha hc hk s m _ below hf ((Spec.applies_iff_loose hf).mp happ).1 ⟨rfl, State.Warmed39.refl s, rfl⟩ trivial
  refine ⟨n, _, h1, h2, h3, hpost _ _ _ _ _ _ ⟨Cond.after_iff.mpr rfl, Cond.after_iff.mpr (eq_i res_at (Term.int_eval (1)) rfl), trivial⟩ ⟨hq.1, hq.2.1, (hq.2.2.sift fun y hy => Or.inr (N y hy)).mono (by decide) (by decide)⟩⟩
theorem main_1_1 : Claimed_1_1 := comes_1 fun _ _ _ _ _ _ h hF => ⟨h.1, hF⟩
theorem main_1_2 : Claimed_1_2 := comes_1 fun _ _ _ _ _ _ h hF => ⟨h.2.1, hF⟩
end Jvm.Pilot.@@N@@
namespace Jvm.Pilot.@@N@@
open Jvm Jvm.ClassFile Sem Op Lib Jvm.Free Jvm.Stand Jvm.Pilot.@@N@@.Jvm.D
/-! MADE BY PROGRAM (witnessworld.py) out of the Statement's table words and the real class files: 22 classes; the members and pool entries that the words name. The judged class is class 1, her method 3. -/
namespace start1
open Jvm.ClassFile
def u (s : String) : CpInfo := .utf8 (stringToUtf16 s)
/-- a pool by its gaps: so many unusable entries, then the entry; so many at the end -/
def gap : Nat → List CpInfo → List CpInfo
  | 0, r => r
  | n + 1, r => .unusable :: gap n r
def poolList (es : List (Nat × CpInfo)) (last : Nat) : List CpInfo := es.foldr (fun e r => gap e.1 (e.2 :: r)) (gap last [])
def pool (es : List (Nat × CpInfo)) (last : Nat) : Array CpInfo := ⟨poolList es last⟩
def fileOf (pool : Array CpInfo) (this : Nat) (attrs : Array Attribute := #[]) (ms : Array MethodInfo := #[]) (fl : Nat := 33) (sup : Nat := 0) (ifs : Array Nat := #[]) (fds : Array FieldInfo := #[]) : ClassFile where
  minorVersion := 0
  majorVersion := 65
  constantPool := pool
  accessFlags := fl
  thisClass := this
  superClass := sup
  interfaces := ifs
  fields := fds
  methods := ms
  attributes := attrs
def plain (name : String) (sup : Option ClassId) : Class where
  name := name
  kind := .ordinary
  loader := none
  accessFlags := 33
  super := sup
  interfaces := #[]
  cf := none
  fields := #[]
  methods := #[]
  instanceTypes := #[]
  staticTypes := #[]
  resolved := #[]
  callSites := []
  init := .initialized
  statics := none
  mirror := none

def pool0 : Array CpInfo := pool [(5, u "<init>"), (0, u "()V"), (1, .class_ 10), (1, u "java/lang/Object")] 113

def k0c0 : Code := { maxStack := 0, maxLocals := 1, code := object_method_1_code, exceptionTable := #[], attributes := #[] }
def k0m0 : Method := { name := "<init>", desc := "()V", sig := { parameters := [], returnType := none }, accessFlags := 1, code := some k0c0 }
/-- java/lang/Object -/
def k0 : Class := { plain "java/lang/Object" none with
  accessFlags := 33
  interfaces := #[]
  cf := some (fileOf pool0 8 #[] #[{ accessFlags := 1, nameIndex := 5, descriptorIndex := 6, attributes := #[] }] 33 0 #[] #[])
  fields := #[]
  methods := #[k0m0]
  instanceTypes := #[]
  staticTypes := #[]
  resolved := Array.replicate 124 none
  statics := none }

def pool1 : Array CpInfo := pool [(2, .class_ 4), (1, u "java/lang/Object"), (0, u "<init>"), (0, u "()V"), (0, .integer 65536), (0, .integer 65535), (0, .methodref 10 11), (0, .class_ 12), (0, .nameAndType 13 14), (0, u "com/example/wary_bearer/warybearer/http/Http1ReaderIsTokenPinLaw"), (0, u "draw"), (0, u "(I)C"), (0, .class_ 16), (0, u "java/lang/String"), (0, .methodref 15 18), (0, .nameAndType 5 19), (0, u "([C)V"), (0, .methodref 10 21), (0, .nameAndType 22 23), (0, u "isT"), (0, u "(C)Z"), (0, .methodref 25 26), (0, .class_ 27), (0, .nameAndType 28 29), (0, u "com/example/wary_bearer/warybearer/http/Http1Reader"), (0, u "isToken"), (0, u "(Ljava/lang/String;II)Z"), (3, u "law"), (0, u "(IIII)Z")] 4

def k1m0 : Method := { name := "<init>", desc := "()V", sig := { parameters := [], returnType := none }, accessFlags := 1, code := none }
def k1c1 : Code := { maxStack := 2, maxLocals := 1, code := method_2_code, exceptionTable := #[], attributes := #[] }
def k1m1 : Method := { name := "draw", desc := "(I)C", sig := { parameters := [.int], returnType := some .char }, accessFlags := 10, code := some k1c1 }
def k1c2 : Code := { maxStack := 2, maxLocals := 1, code := method_3_code, exceptionTable := #[], attributes := #[] }
def k1m2 : Method := { name := "isT", desc := "(C)Z", sig := { parameters := [.char], returnType := some .boolean }, accessFlags := 10, code := some k1c2 }
def k1c3 : Code := { maxStack := 3, maxLocals := 16, code := code, exceptionTable := #[], attributes := #[] }
def k1m3 : Method := { name := "law", desc := "(IIII)Z", sig := { parameters := [.int, .int, .int, .int], returnType := some .boolean }, accessFlags := 9, code := some k1c3 }
/-- com/example/wary_bearer/warybearer/http/Http1ReaderIsTokenPinLaw -/
def k1 : Class := { plain "com/example/wary_bearer/warybearer/http/Http1ReaderIsTokenPinLaw" (some 0) with
  accessFlags := 49
  interfaces := #[]
  cf := some (fileOf pool1 10 #[] #[{ accessFlags := 1, nameIndex := 5, descriptorIndex := 6, attributes := #[] }, { accessFlags := 10, nameIndex := 13, descriptorIndex := 14, attributes := #[] }, { accessFlags := 10, nameIndex := 22, descriptorIndex := 23, attributes := #[] }, { accessFlags := 9, nameIndex := 33, descriptorIndex := 34, attributes := #[] }] 49 2 #[] #[])
  fields := #[]
  methods := #[k1m0, k1m1, k1m2, k1m3]
  instanceTypes := #[]
  staticTypes := #[]
  resolved := Array.replicate 39 none
  statics := none }

def pool2 : Array CpInfo := pool [(1, .class_ 2), (0, u "java/io/Serializable"), (0, .class_ 4), (0, u "java/lang/Object")] 2

/-- java/io/Serializable -/
def k2 : Class := { plain "java/io/Serializable" (some 0) with
  accessFlags := 1537
  interfaces := #[]
  cf := some (fileOf pool2 1 #[] #[] 1537 3 #[] #[])
  fields := #[]
  methods := #[]
  instanceTypes := #[]
  staticTypes := #[]
  resolved := Array.replicate 7 none
  statics := none }

def pool3 : Array CpInfo := pool [(1, .class_ 2), (0, u "java/lang/Comparable"), (0, .class_ 4), (0, u "java/lang/Object")] 7

/-- java/lang/Comparable -/
def k3 : Class := { plain "java/lang/Comparable" (some 0) with
  accessFlags := 1537
  interfaces := #[]
  cf := some (fileOf pool3 1 #[] #[] 1537 3 #[] #[])
  fields := #[]
  methods := #[]
  instanceTypes := #[]
  staticTypes := #[]
  resolved := Array.replicate 12 none
  statics := none }

def pool4 : Array CpInfo := pool [(2, .class_ 4), (1, u "java/lang/CharSequence"), (42, .class_ 48), (0, u "java/lang/CharSequence$1CodePointIterator"), (10, .class_ 60), (0, u "java/lang/CharSequence$1CharIterator"), (5, .class_ 67), (0, u "java/lang/Object")] 63

/-- java/lang/CharSequence -/
def k4 : Class := { plain "java/lang/CharSequence" (some 0) with
  accessFlags := 1537
  interfaces := #[]
  cf := some (fileOf pool4 2 #[.nestMembers #[47, 59]] #[] 1537 66 #[] #[])
  fields := #[]
  methods := #[]
  instanceTypes := #[]
  staticTypes := #[]
  resolved := Array.replicate 131 none
  statics := none }

def pool5 : Array CpInfo := pool [(1, .class_ 2), (0, u "java/lang/constant/Constable"), (0, .class_ 4), (0, u "java/lang/Object")] 6

/-- java/lang/constant/Constable -/
def k5 : Class := { plain "java/lang/constant/Constable" (some 0) with
  accessFlags := 1537
  interfaces := #[]
  cf := some (fileOf pool5 1 #[] #[] 1537 3 #[] #[])
  fields := #[]
  methods := #[]
  instanceTypes := #[]
  staticTypes := #[]
  resolved := Array.replicate 11 none
  statics := none }

def pool6 : Array CpInfo := pool [(1, .class_ 2), (0, u "java/lang/constant/ConstantDesc"), (0, .class_ 4), (0, u "java/lang/Object")] 32

/-- java/lang/constant/ConstantDesc -/
def k6 : Class := { plain "java/lang/constant/ConstantDesc" (some 0) with
  accessFlags := 1537
  interfaces := #[]
  cf := some (fileOf pool6 1 #[] #[] 1537 3 #[] #[])
  fields := #[]
  methods := #[]
  instanceTypes := #[]
  staticTypes := #[]
  resolved := Array.replicate 37 none
  statics := none }

def pool7 : Array CpInfo := pool [(1, .methodref 2 3), (0, .class_ 4), (0, .nameAndType 5 6), (0, u "java/lang/Object"), (0, u "<init>"), (0, u "()V"), (2, .fieldref 10 11), (0, .class_ 12), (0, .nameAndType 13 14), (0, u "java/lang/String"), (0, u "value"), (0, u "[B"), (0, .fieldref 10 16), (0, .nameAndType 17 18), (0, u "coder"), (0, u "B"), (2, u "hash"), (0, u "I"), (2, u "hashIsZero"), (0, u "Z"), (0, .methodref 10 28), (0, .nameAndType 5 29), (0, u "([CIILjava/lang/Void;)V"), (8, .fieldref 10 39), (0, .nameAndType 40 26), (0, u "COMPACT_STRINGS"), (1, .class_ 44), (1, u "java/lang/StringUTF16"), (0, u "compress"), (1, .methodref 42 48), (0, .nameAndType 49 50), (0, u "coderFromArrayLen"), (0, u "([BI)B"), (56, .class_ 109), (1, u "java/lang/StringLatin1"), (32, u "()Z"), (34, .methodref 42 178), (0, .nameAndType 45 179), (0, u "([CII)[B"), (183, u "([BI)C"), (27, u "(II)V"), (35, u "(I)C"), (64, .methodref 10 493), (0, .nameAndType 494 142), (0, u "isLatin1"), (0, .methodref 107 496), (0, .nameAndType 497 363), (0, u "charAt"), (0, .methodref 42 496), (2, u "checkIndex"), (73, .class_ 576), (0, u "java/lang/CharSequence"), (22, u "CASE_INSENSITIVE_ORDER"), (0, u "Ljava/util/Comparator;"), (409, u "([C)V"), (42, .fieldref 1054 1055), (0, .class_ 1056), (0, .nameAndType 1057 1058), (0, u "jdk/internal/util/Preconditions"), (0, u "SIOOBE_FORMATTER"), (0, u "Ljava/util/function/BiFunction;"), (0, .methodref 1054 1060), (0, .nameAndType 501 1061), (0, u "(IILjava/util/function/BiFunction;)I"), (39, u "serialPersistentFields"), (0, u "[Ljava/io/ObjectStreamField;"), (0, .class_ 1104), (0, u "java/lang/String$CaseInsensitiveComparator"), (1, .class_ 1107), (0, u "java/io/Serializable"), (0, .class_ 1109), (0, u "java/lang/Comparable"), (0, .class_ 1111), (0, u "java/lang/constant/Constable"), (0, .class_ 1113), (0, u "java/lang/constant/ConstantDesc"), (2, u "serialVersionUID"), (0, u "J"), (3, u "REPL"), (0, u "C"), (2, u "LATIN1"), (1, u "UTF16")] 323

def k7m0 : Method := { name := "<init>", desc := "()V", sig := { parameters := [], returnType := none }, accessFlags := 1, code := none }
def k7c1 : Code := { maxStack := 5, maxLocals := 2, code := jdk_42_method_3_code, exceptionTable := #[], attributes := #[] }
def k7m1 : Method := { name := "<init>", desc := "([C)V", sig := { parameters := [(.array .char)], returnType := none }, accessFlags := 1, code := some k7c1 }
def k7c2 : Code := { maxStack := 2, maxLocals := 2, code := jdk_42_method_56_code, exceptionTable := #[], attributes := #[] }
def k7m2 : Method := { name := "charAt", desc := "(I)C", sig := { parameters := [.int], returnType := some .char }, accessFlags := 1, code := some k7c2 }
def k7c3 : Code := { maxStack := 4, maxLocals := 6, code := jdk_42_method_149_code, exceptionTable := #[], attributes := #[] }
def k7m3 : Method := { name := "<init>", desc := "([CIILjava/lang/Void;)V", sig := { parameters := [(.array .char), .int, .int, (.object "java/lang/Void")], returnType := none }, accessFlags := 2, code := some k7c3 }
def k7c4 : Code := { maxStack := 1, maxLocals := 1, code := jdk_42_method_154_code, exceptionTable := #[], attributes := #[] }
def k7m4 : Method := { name := "isLatin1", desc := "()Z", sig := { parameters := [], returnType := some .boolean }, accessFlags := 0, code := some k7c4 }
def k7c5 : Code := { maxStack := 3, maxLocals := 2, code := jdk_42_method_155_code, exceptionTable := #[], attributes := #[] }
def k7m5 : Method := { name := "checkIndex", desc := "(II)V", sig := { parameters := [.int, .int], returnType := none }, accessFlags := 8, code := some k7c5 }
/-- java/lang/String -/
def k7 : Class := { plain "java/lang/String" (some 0) with
  accessFlags := 49
  interfaces := #[2, 3, 4, 5, 6]
  cf := some (fileOf pool7 10 #[.nestMembers #[1103]] #[{ accessFlags := 1, nameIndex := 5, descriptorIndex := 6, attributes := #[] }, { accessFlags := 1, nameIndex := 5, descriptorIndex := 1010, attributes := #[] }, { accessFlags := 1, nameIndex := 497, descriptorIndex := 427, attributes := #[] }, { accessFlags := 2, nameIndex := 5, descriptorIndex := 29, attributes := #[] }, { accessFlags := 0, nameIndex := 494, descriptorIndex := 142, attributes := #[] }, { accessFlags := 8, nameIndex := 501, descriptorIndex := 391, attributes := #[] }] 49 2 #[1106, 1108, 575, 1110, 1112] #[{ accessFlags := 18, nameIndex := 13, descriptorIndex := 14, attributes := #[] }, { accessFlags := 18, nameIndex := 17, descriptorIndex := 18, attributes := #[] }, { accessFlags := 2, nameIndex := 21, descriptorIndex := 22, attributes := #[] }, { accessFlags := 2, nameIndex := 25, descriptorIndex := 26, attributes := #[] }, { accessFlags := 26, nameIndex := 1116, descriptorIndex := 1117, attributes := #[] }, { accessFlags := 24, nameIndex := 40, descriptorIndex := 26, attributes := #[] }, { accessFlags := 26, nameIndex := 1101, descriptorIndex := 1102, attributes := #[] }, { accessFlags := 26, nameIndex := 1121, descriptorIndex := 1122, attributes := #[] }, { accessFlags := 25, nameIndex := 599, descriptorIndex := 600, attributes := #[] }, { accessFlags := 24, nameIndex := 1125, descriptorIndex := 18, attributes := #[] }, { accessFlags := 24, nameIndex := 1127, descriptorIndex := 18, attributes := #[] }])
  fields := #[{ name := "value", type := (.array .byte), accessFlags := 18, slot := 0, constantValue := 0 }, { name := "coder", type := .byte, accessFlags := 18, slot := 1, constantValue := 0 }, { name := "hash", type := .int, accessFlags := 2, slot := 2, constantValue := 0 }, { name := "hashIsZero", type := .boolean, accessFlags := 2, slot := 3, constantValue := 0 }, { name := "serialVersionUID", type := .long, accessFlags := 26, slot := 0, constantValue := 0 }, { name := "COMPACT_STRINGS", type := .boolean, accessFlags := 24, slot := 1, constantValue := 0 }, { name := "serialPersistentFields", type := (.array (.object "java/io/ObjectStreamField")), accessFlags := 26, slot := 2, constantValue := 0 }, { name := "REPL", type := .char, accessFlags := 26, slot := 3, constantValue := 0 }, { name := "CASE_INSENSITIVE_ORDER", type := (.object "java/util/Comparator"), accessFlags := 25, slot := 4, constantValue := 0 }, { name := "LATIN1", type := .byte, accessFlags := 24, slot := 5, constantValue := 0 }, { name := "UTF16", type := .byte, accessFlags := 24, slot := 6, constantValue := 0 }]
  methods := #[k7m0, k7m1, k7m2, k7m3, k7m4, k7m5]
  instanceTypes := #[(.array .byte), .byte, .int, .boolean]
  staticTypes := #[.long, .boolean, (.array (.object "java/io/ObjectStreamField")), .char, (.object "java/util/Comparator"), .byte, .byte]
  resolved := Array.replicate 1451 none
  statics := some 0 }

def pool8 : Array CpInfo := pool [(3, .class_ 4), (0, u "java/lang/String"), (1, .class_ 8), (1, u "java/lang/Object"), (0, u "<init>"), (0, u "()V"), (0, .methodref 12 13), (0, .class_ 14), (0, .nameAndType 15 16), (0, u "java/lang/StringUTF16"), (0, u "newBytesLength"), (0, u "(I)I"), (3, .integer 1073741823), (23, .fieldref 12 45), (0, .nameAndType 46 47), (0, u "$assertionsDisabled"), (0, u "Z"), (0, .methodref 12 49), (0, .nameAndType 50 51), (0, u "length"), (0, u "([B)I"), (7, .fieldref 12 60), (0, .nameAndType 61 62), (0, u "HI_BYTE_SHIFT"), (0, u "I"), (0, .fieldref 12 64), (0, .nameAndType 65 62), (0, u "LO_BYTE_SHIFT"), (1, .methodref 12 68), (0, .nameAndType 69 70), (0, u "checkIndex"), (0, u "(I[B)V"), (0, .methodref 12 72), (0, .nameAndType 73 74), (0, u "getChar"), (0, u "([BI)C"), (32, .methodref 12 108), (0, .nameAndType 109 110), (0, u "newBytesFor"), (0, u "(I)[B"), (0, .methodref 12 112), (0, .nameAndType 113 114), (0, u "putChar"), (0, u "([BII)V"), (0, .methodref 12 116), (0, .nameAndType 117 118), (0, u "compress"), (0, u "([CI[BII)I"), (0, .methodref 12 120), (0, .nameAndType 121 122), (0, u "toBytes"), (0, u "([CII)[B"), (138, u "coderFromArrayLen"), (0, u "([BI)B"), (106, .class_ 371), (1, u "java/lang/StringUTF16$LinesSpliterator"), (20, u "charAt"), (21, .methodref 3 415), (0, .nameAndType 69 416), (0, u "(II)V"), (13, u "MAX_LENGTH"), (196, .class_ 628), (0, u "java/lang/StringUTF16$CodePointsSpliterator"), (0, .class_ 630), (0, u "java/lang/StringUTF16$CharsSpliterator")] 4

def k8m0 : Method := { name := "<init>", desc := "()V", sig := { parameters := [], returnType := none }, accessFlags := 0, code := none }
def k8c1 : Code := { maxStack := 1, maxLocals := 1, code := jdk_52_method_2_code, exceptionTable := #[], attributes := #[] }
def k8m1 : Method := { name := "newBytesFor", desc := "(I)[B", sig := { parameters := [.int], returnType := some (.array .byte) }, accessFlags := 9, code := some k8c1 }
def k8c2 : Code := { maxStack := 4, maxLocals := 1, code := jdk_52_method_3_code, exceptionTable := #[], attributes := #[] }
def k8m2 : Method := { name := "newBytesLength", desc := "(I)I", sig := { parameters := [.int], returnType := some .int }, accessFlags := 9, code := some k8c2 }
def k8c3 : Code := { maxStack := 4, maxLocals := 3, code := jdk_52_method_4_code, exceptionTable := #[], attributes := #[] }
def k8m3 : Method := { name := "putChar", desc := "([BII)V", sig := { parameters := [(.array .byte), .int, .int], returnType := none }, accessFlags := 8, code := some k8c3 }
def k8c4 : Code := { maxStack := 3, maxLocals := 2, code := jdk_52_method_5_code, exceptionTable := #[], attributes := #[] }
def k8m4 : Method := { name := "getChar", desc := "([BI)C", sig := { parameters := [(.array .byte), .int], returnType := some .char }, accessFlags := 8, code := some k8c4 }
def k8c5 : Code := { maxStack := 2, maxLocals := 1, code := jdk_52_method_6_code, exceptionTable := #[], attributes := #[] }
def k8m5 : Method := { name := "length", desc := "([B)I", sig := { parameters := [(.array .byte)], returnType := some .int }, accessFlags := 9, code := some k8c5 }
def k8c6 : Code := { maxStack := 4, maxLocals := 5, code := jdk_52_method_14_code, exceptionTable := #[], attributes := #[] }
def k8m6 : Method := { name := "toBytes", desc := "([CII)[B", sig := { parameters := [(.array .char), .int, .int], returnType := some (.array .byte) }, accessFlags := 9, code := some k8c6 }
def k8c7 : Code := { maxStack := 2, maxLocals := 2, code := jdk_52_method_15_code, exceptionTable := #[], attributes := #[] }
def k8m7 : Method := { name := "coderFromArrayLen", desc := "([BI)B", sig := { parameters := [(.array .byte), .int], returnType := some .byte }, accessFlags := 8, code := some k8c7 }
def k8c8 : Code := { maxStack := 5, maxLocals := 6, code := jdk_52_method_16_code, exceptionTable := #[], attributes := #[] }
def k8m8 : Method := { name := "compress", desc := "([CII)[B", sig := { parameters := [(.array .char), .int, .int], returnType := some (.array .byte) }, accessFlags := 9, code := some k8c8 }
def k8c9 : Code := { maxStack := 3, maxLocals := 7, code := jdk_52_method_21_code, exceptionTable := #[], attributes := #[] }
def k8m9 : Method := { name := "compress", desc := "([CI[BII)I", sig := { parameters := [(.array .char), .int, (.array .byte), .int, .int], returnType := some .int }, accessFlags := 9, code := some k8c9 }
def k8c10 : Code := { maxStack := 2, maxLocals := 2, code := jdk_52_method_83_code, exceptionTable := #[], attributes := #[] }
def k8m10 : Method := { name := "charAt", desc := "([BI)C", sig := { parameters := [(.array .byte), .int], returnType := some .char }, accessFlags := 9, code := some k8c10 }
def k8c11 : Code := { maxStack := 2, maxLocals := 2, code := jdk_52_method_91_code, exceptionTable := #[], attributes := #[] }
def k8m11 : Method := { name := "checkIndex", desc := "(I[B)V", sig := { parameters := [.int, (.array .byte)], returnType := none }, accessFlags := 9, code := some k8c11 }
/-- java/lang/StringUTF16 -/
def k8 : Class := { plain "java/lang/StringUTF16" (some 0) with
  accessFlags := 48
  interfaces := #[]
  cf := some (fileOf pool8 12 #[.nestMembers #[627, 629, 369]] #[{ accessFlags := 0, nameIndex := 9, descriptorIndex := 10, attributes := #[] }, { accessFlags := 9, nameIndex := 109, descriptorIndex := 110, attributes := #[] }, { accessFlags := 9, nameIndex := 15, descriptorIndex := 16, attributes := #[] }, { accessFlags := 8, nameIndex := 113, descriptorIndex := 114, attributes := #[] }, { accessFlags := 8, nameIndex := 73, descriptorIndex := 74, attributes := #[] }, { accessFlags := 9, nameIndex := 50, descriptorIndex := 51, attributes := #[] }, { accessFlags := 9, nameIndex := 121, descriptorIndex := 122, attributes := #[] }, { accessFlags := 8, nameIndex := 261, descriptorIndex := 262, attributes := #[] }, { accessFlags := 9, nameIndex := 117, descriptorIndex := 122, attributes := #[] }, { accessFlags := 9, nameIndex := 117, descriptorIndex := 118, attributes := #[] }, { accessFlags := 9, nameIndex := 392, descriptorIndex := 74, attributes := #[] }, { accessFlags := 9, nameIndex := 69, descriptorIndex := 70, attributes := #[] }] 48 6 #[] #[{ accessFlags := 26, nameIndex := 61, descriptorIndex := 62, attributes := #[] }, { accessFlags := 26, nameIndex := 65, descriptorIndex := 62, attributes := #[] }, { accessFlags := 24, nameIndex := 430, descriptorIndex := 62, attributes := #[] }, { accessFlags := 4120, nameIndex := 46, descriptorIndex := 47, attributes := #[] }])
  fields := #[{ name := "HI_BYTE_SHIFT", type := .int, accessFlags := 26, slot := 0, constantValue := 0 }, { name := "LO_BYTE_SHIFT", type := .int, accessFlags := 26, slot := 1, constantValue := 0 }, { name := "MAX_LENGTH", type := .int, accessFlags := 24, slot := 2, constantValue := 0 }, { name := "$assertionsDisabled", type := .boolean, accessFlags := 4120, slot := 3, constantValue := 0 }]
  methods := #[k8m0, k8m1, k8m2, k8m3, k8m4, k8m5, k8m6, k8m7, k8m8, k8m9, k8m10, k8m11]
  instanceTypes := #[]
  staticTypes := #[.int, .int, .int, .boolean]
  resolved := Array.replicate 635 none
  statics := some 1 }

def pool9 : Array CpInfo := pool [(2, .class_ 4), (1, u "java/lang/Object"), (3, .class_ 10), (1, u "com/example/wary_bearer/warybearer/http/Http1Reader"), (0, u "in"), (0, u "Ljava/io/InputStream;"), (2, u "message"), (0, u "Ljava/lang/String;"), (2, u "headLimit"), (0, u "I"), (2, u "buffer"), (0, u "[B"), (2, u "end"), (2, u "start"), (22, .class_ 54), (0, u "java/lang/String"), (68, u "isToken"), (0, u "(Ljava/lang/String;II)Z"), (19, .methodref 53 145), (0, .nameAndType 146 147), (0, u "charAt"), (0, u "(I)C"), (26, u "scanned"), (10, .class_ 186), (0, u "com/example/wary_bearer/warybearer/http/Http1Reader$Source"), (0, .fieldref 8 188), (0, .nameAndType 189 190), (0, u "TCHAR"), (0, u "[Z"), (59, u "NOT_A_FIELD_VALUE"), (3, u "MAX_CHUNK_LINE")] 54

def k9c0 : Code := { maxStack := 2, maxLocals := 5, code := prog_13_method_12_code, exceptionTable := #[], attributes := #[] }
def k9m0 : Method := { name := "isToken", desc := "(Ljava/lang/String;II)Z", sig := { parameters := [(.object "java/lang/String"), .int, .int], returnType := some .boolean }, accessFlags := 9, code := some k9c0 }
/-- com/example/wary_bearer/warybearer/http/Http1Reader -/
def k9 : Class := { plain "com/example/wary_bearer/warybearer/http/Http1Reader" (some 0) with
  accessFlags := 49
  interfaces := #[]
  cf := some (fileOf pool9 8 #[.nestMembers #[185]] #[{ accessFlags := 9, nameIndex := 123, descriptorIndex := 124, attributes := #[] }] 49 2 #[] #[{ accessFlags := 25, nameIndex := 250, descriptorIndex := 16, attributes := #[] }, { accessFlags := 26, nameIndex := 254, descriptorIndex := 20, attributes := #[] }, { accessFlags := 26, nameIndex := 189, descriptorIndex := 190, attributes := #[] }, { accessFlags := 18, nameIndex := 11, descriptorIndex := 12, attributes := #[] }, { accessFlags := 18, nameIndex := 15, descriptorIndex := 16, attributes := #[] }, { accessFlags := 18, nameIndex := 19, descriptorIndex := 20, attributes := #[] }, { accessFlags := 2, nameIndex := 23, descriptorIndex := 24, attributes := #[] }, { accessFlags := 2, nameIndex := 30, descriptorIndex := 20, attributes := #[] }, { accessFlags := 2, nameIndex := 27, descriptorIndex := 20, attributes := #[] }, { accessFlags := 2, nameIndex := 174, descriptorIndex := 20, attributes := #[] }])
  fields := #[{ name := "NOT_A_FIELD_VALUE", type := (.object "java/lang/String"), accessFlags := 25, slot := 0, constantValue := 0 }, { name := "MAX_CHUNK_LINE", type := .int, accessFlags := 26, slot := 1, constantValue := 0 }, { name := "TCHAR", type := (.array .boolean), accessFlags := 26, slot := 2, constantValue := 0 }, { name := "in", type := (.object "java/io/InputStream"), accessFlags := 18, slot := 0, constantValue := 0 }, { name := "message", type := (.object "java/lang/String"), accessFlags := 18, slot := 1, constantValue := 0 }, { name := "headLimit", type := .int, accessFlags := 18, slot := 2, constantValue := 0 }, { name := "buffer", type := (.array .byte), accessFlags := 2, slot := 3, constantValue := 0 }, { name := "start", type := .int, accessFlags := 2, slot := 4, constantValue := 0 }, { name := "end", type := .int, accessFlags := 2, slot := 5, constantValue := 0 }, { name := "scanned", type := .int, accessFlags := 2, slot := 6, constantValue := 0 }]
  methods := #[k9m0]
  instanceTypes := #[(.object "java/io/InputStream"), (.object "java/lang/String"), .int, (.array .byte), .int, .int, .int]
  staticTypes := #[(.object "java/lang/String"), .int, (.array .boolean)]
  resolved := Array.replicate 309 none
  statics := some 2 }

def pool10 : Array CpInfo := pool [(2, .class_ 4), (1, u "java/lang/Object"), (0, u "<init>"), (0, u "()V"), (17, .class_ 26), (1, u "jdk/internal/util/Preconditions"), (6, u "checkIndex"), (21, .class_ 56), (0, u "jdk/internal/util/Preconditions$4"), (57, .class_ 115), (0, u "jdk/internal/util/Preconditions$1"), (7, u "SIOOBE_FORMATTER"), (0, u "Ljava/util/function/BiFunction;"), (0, .class_ 126), (0, u "jdk/internal/util/Preconditions$2"), (3, u "AIOOBE_FORMATTER"), (0, .class_ 132), (0, u "jdk/internal/util/Preconditions$3"), (3, u "IOOBE_FORMATTER"), (41, u "(IILjava/util/function/BiFunction;)I")] 15

def k10m0 : Method := { name := "<init>", desc := "()V", sig := { parameters := [], returnType := none }, accessFlags := 1, code := none }
def k10c1 : Code := { maxStack := 3, maxLocals := 3, code := jdk_41_method_11_code, exceptionTable := #[], attributes := #[] }
def k10m1 : Method := { name := "checkIndex", desc := "(IILjava/util/function/BiFunction;)I", sig := { parameters := [.int, .int, (.object "java/util/function/BiFunction")], returnType := some .int }, accessFlags := 9, code := some k10c1 }
/-- jdk/internal/util/Preconditions -/
def k10 : Class := { plain "jdk/internal/util/Preconditions" (some 0) with
  accessFlags := 33
  interfaces := #[]
  cf := some (fileOf pool10 24 #[.nestMembers #[55, 131, 125, 114]] #[{ accessFlags := 1, nameIndex := 5, descriptorIndex := 6, attributes := #[] }, { accessFlags := 9, nameIndex := 33, descriptorIndex := 178, attributes := #[] }] 33 2 #[] #[{ accessFlags := 25, nameIndex := 123, descriptorIndex := 124, attributes := #[] }, { accessFlags := 25, nameIndex := 130, descriptorIndex := 124, attributes := #[] }, { accessFlags := 25, nameIndex := 136, descriptorIndex := 124, attributes := #[] }])
  fields := #[{ name := "SIOOBE_FORMATTER", type := (.object "java/util/function/BiFunction"), accessFlags := 25, slot := 0, constantValue := 0 }, { name := "AIOOBE_FORMATTER", type := (.object "java/util/function/BiFunction"), accessFlags := 25, slot := 1, constantValue := 0 }, { name := "IOOBE_FORMATTER", type := (.object "java/util/function/BiFunction"), accessFlags := 25, slot := 2, constantValue := 0 }]
  methods := #[k10m0, k10m1]
  instanceTypes := #[]
  staticTypes := #[(.object "java/util/function/BiFunction"), (.object "java/util/function/BiFunction"), (.object "java/util/function/BiFunction")]
  resolved := Array.replicate 194 none
  statics := some 3 }

def pool11 : Array CpInfo := pool [(1, .class_ 2), (0, u "java/lang/String"), (1, .class_ 6), (1, u "java/lang/Object"), (0, u "<init>"), (0, u "()V"), (0, .methodref 1 10), (0, .nameAndType 11 12), (0, u "checkIndex"), (0, u "(II)V"), (1, .class_ 16), (1, u "java/lang/StringLatin1"), (36, u "([BI)C"), (67, u "$assertionsDisabled"), (0, u "Z"), (98, .class_ 223), (1, u "java/lang/StringLatin1$LinesSpliterator"), (28, u "charAt"), (137, .class_ 391), (0, u "java/lang/StringLatin1$CharsSpliterator")] 3

def k11m0 : Method := { name := "<init>", desc := "()V", sig := { parameters := [], returnType := none }, accessFlags := 0, code := none }
def k11c1 : Code := { maxStack := 2, maxLocals := 2, code := jdk_43_method_2_code, exceptionTable := #[], attributes := #[] }
def k11m1 : Method := { name := "charAt", desc := "([BI)C", sig := { parameters := [(.array .byte), .int], returnType := some .char }, accessFlags := 9, code := some k11c1 }
/-- java/lang/StringLatin1 -/
def k11 : Class := { plain "java/lang/StringLatin1" (some 0) with
  accessFlags := 48
  interfaces := #[]
  cf := some (fileOf pool11 14 #[.nestMembers #[390, 221]] #[{ accessFlags := 0, nameIndex := 7, descriptorIndex := 8, attributes := #[] }, { accessFlags := 9, nameIndex := 252, descriptorIndex := 53, attributes := #[] }] 48 4 #[] #[{ accessFlags := 4120, nameIndex := 121, descriptorIndex := 122, attributes := #[] }])
  fields := #[{ name := "$assertionsDisabled", type := .boolean, accessFlags := 4120, slot := 0, constantValue := 0 }]
  methods := #[k11m0, k11m1]
  instanceTypes := #[]
  staticTypes := #[.boolean]
  resolved := Array.replicate 395 none
  statics := none }

def pool12 : Array CpInfo := pool [(9, u "<init>"), (6, .class_ 18), (1, u "java/lang/Object"), (0, u "()V"), (1, .class_ 23), (1, u "jdk/internal/util/ArraysSupport"), (0, u "LOG2_ARRAY_LONG_INDEX_SCALE"), (0, u "I"), (2, u "U"), (0, u "Ljdk/internal/misc/Unsafe;"), (8, u "BIG_ENDIAN"), (0, u "Z"), (8, u "LOG2_BYTE_BIT_SIZE"), (4, u "LOG2_ARRAY_INT_INDEX_SCALE"), (54, u "JLA"), (0, u "Ljdk/internal/access/JavaLangAccess;"), (11, u "LOG2_ARRAY_BOOLEAN_INDEX_SCALE"), (9, u "LOG2_ARRAY_BYTE_INDEX_SCALE"), (5, u "LOG2_ARRAY_CHAR_INDEX_SCALE"), (5, u "LOG2_ARRAY_SHORT_INDEX_SCALE"), (18, u "LOG2_ARRAY_FLOAT_INDEX_SCALE"), (24, u "LOG2_ARRAY_DOUBLE_INDEX_SCALE"), (89, u "T_BOOLEAN"), (2, u "T_CHAR"), (1, u "T_FLOAT"), (1, u "T_DOUBLE"), (1, u "T_BYTE"), (1, u "T_SHORT"), (1, u "T_INT"), (1, u "T_LONG"), (1, u "SOFT_MAX_ARRAY_LENGTH")] 83

def k12m0 : Method := { name := "<init>", desc := "()V", sig := { parameters := [], returnType := none }, accessFlags := 2, code := none }
/-- jdk/internal/util/ArraysSupport -/
def k12 : Class := { plain "jdk/internal/util/ArraysSupport" (some 0) with
  accessFlags := 33
  interfaces := #[]
  cf := some (fileOf pool12 21 #[] #[{ accessFlags := 2, nameIndex := 9, descriptorIndex := 19, attributes := #[] }] 33 16 #[] #[{ accessFlags := 24, nameIndex := 28, descriptorIndex := 29, attributes := #[] }, { accessFlags := 26, nameIndex := 38, descriptorIndex := 39, attributes := #[] }, { accessFlags := 25, nameIndex := 121, descriptorIndex := 25, attributes := #[] }, { accessFlags := 25, nameIndex := 131, descriptorIndex := 25, attributes := #[] }, { accessFlags := 25, nameIndex := 137, descriptorIndex := 25, attributes := #[] }, { accessFlags := 25, nameIndex := 143, descriptorIndex := 25, attributes := #[] }, { accessFlags := 25, nameIndex := 53, descriptorIndex := 25, attributes := #[] }, { accessFlags := 25, nameIndex := 24, descriptorIndex := 25, attributes := #[] }, { accessFlags := 25, nameIndex := 162, descriptorIndex := 25, attributes := #[] }, { accessFlags := 25, nameIndex := 187, descriptorIndex := 25, attributes := #[] }, { accessFlags := 26, nameIndex := 48, descriptorIndex := 25, attributes := #[] }, { accessFlags := 25, nameIndex := 277, descriptorIndex := 25, attributes := #[] }, { accessFlags := 25, nameIndex := 280, descriptorIndex := 25, attributes := #[] }, { accessFlags := 25, nameIndex := 282, descriptorIndex := 25, attributes := #[] }, { accessFlags := 25, nameIndex := 284, descriptorIndex := 25, attributes := #[] }, { accessFlags := 25, nameIndex := 286, descriptorIndex := 25, attributes := #[] }, { accessFlags := 25, nameIndex := 288, descriptorIndex := 25, attributes := #[] }, { accessFlags := 25, nameIndex := 290, descriptorIndex := 25, attributes := #[] }, { accessFlags := 25, nameIndex := 292, descriptorIndex := 25, attributes := #[] }, { accessFlags := 26, nameIndex := 108, descriptorIndex := 109, attributes := #[] }, { accessFlags := 25, nameIndex := 294, descriptorIndex := 25, attributes := #[] }])
  fields := #[{ name := "U", type := (.object "jdk/internal/misc/Unsafe"), accessFlags := 24, slot := 0, constantValue := 0 }, { name := "BIG_ENDIAN", type := .boolean, accessFlags := 26, slot := 1, constantValue := 0 }, { name := "LOG2_ARRAY_BOOLEAN_INDEX_SCALE", type := .int, accessFlags := 25, slot := 2, constantValue := 0 }, { name := "LOG2_ARRAY_BYTE_INDEX_SCALE", type := .int, accessFlags := 25, slot := 3, constantValue := 0 }, { name := "LOG2_ARRAY_CHAR_INDEX_SCALE", type := .int, accessFlags := 25, slot := 4, constantValue := 0 }, { name := "LOG2_ARRAY_SHORT_INDEX_SCALE", type := .int, accessFlags := 25, slot := 5, constantValue := 0 }, { name := "LOG2_ARRAY_INT_INDEX_SCALE", type := .int, accessFlags := 25, slot := 6, constantValue := 0 }, { name := "LOG2_ARRAY_LONG_INDEX_SCALE", type := .int, accessFlags := 25, slot := 7, constantValue := 0 }, { name := "LOG2_ARRAY_FLOAT_INDEX_SCALE", type := .int, accessFlags := 25, slot := 8, constantValue := 0 }, { name := "LOG2_ARRAY_DOUBLE_INDEX_SCALE", type := .int, accessFlags := 25, slot := 9, constantValue := 0 }, { name := "LOG2_BYTE_BIT_SIZE", type := .int, accessFlags := 26, slot := 10, constantValue := 0 }, { name := "T_BOOLEAN", type := .int, accessFlags := 25, slot := 11, constantValue := 0 }, { name := "T_CHAR", type := .int, accessFlags := 25, slot := 12, constantValue := 0 }, { name := "T_FLOAT", type := .int, accessFlags := 25, slot := 13, constantValue := 0 }, { name := "T_DOUBLE", type := .int, accessFlags := 25, slot := 14, constantValue := 0 }, { name := "T_BYTE", type := .int, accessFlags := 25, slot := 15, constantValue := 0 }, { name := "T_SHORT", type := .int, accessFlags := 25, slot := 16, constantValue := 0 }, { name := "T_INT", type := .int, accessFlags := 25, slot := 17, constantValue := 0 }, { name := "T_LONG", type := .int, accessFlags := 25, slot := 18, constantValue := 0 }, { name := "JLA", type := (.object "jdk/internal/access/JavaLangAccess"), accessFlags := 26, slot := 19, constantValue := 0 }, { name := "SOFT_MAX_ARRAY_LENGTH", type := .int, accessFlags := 25, slot := 20, constantValue := 0 }]
  methods := #[k12m0]
  instanceTypes := #[]
  staticTypes := #[(.object "jdk/internal/misc/Unsafe"), .boolean, .int, .int, .int, .int, .int, .int, .int, .int, .int, .int, .int, .int, .int, .int, .int, .int, .int, (.object "jdk/internal/access/JavaLangAccess"), .int]
  resolved := Array.replicate 378 none
  statics := none }

def pool13 : Array CpInfo := pool [(1, u "java/lang/Cloneable"), (0, .class_ 1), (0, u "java/lang/Object"), (0, .class_ 3)] 3

/-- java/lang/Cloneable -/
def k13 : Class := { plain "java/lang/Cloneable" (some 0) with
  accessFlags := 1537
  interfaces := #[]
  cf := some (fileOf pool13 2 #[] #[] 1537 4 #[] #[])
  fields := #[]
  methods := #[]
  instanceTypes := #[]
  staticTypes := #[]
  resolved := Array.replicate 8 none
  statics := none }

/-- the primitive boolean -/
def k14 : Class := { plain "boolean" none with kind := .primitive 'Z', accessFlags := 0x411 }
/-- [Z -/
def k15 : Class := { plain "[Z" (some 0) with kind := .array 14 .boolean, interfaces := #[13, 2], accessFlags := 1041 }

/-- the primitive byte -/
def k16 : Class := { plain "byte" none with kind := .primitive 'B', accessFlags := 0x411 }
/-- [B -/
def k17 : Class := { plain "[B" (some 0) with kind := .array 16 .byte, interfaces := #[13, 2], accessFlags := 1041 }

/-- the primitive char -/
def k18 : Class := { plain "char" none with kind := .primitive 'C', accessFlags := 0x411 }
/-- [C -/
def k19 : Class := { plain "[C" (some 0) with kind := .array 18 .char, interfaces := #[13, 2], accessFlags := 1041 }

/-- the primitive int -/
def k20 : Class := { plain "int" none with kind := .primitive 'I', accessFlags := 0x411 }
/-- [I -/
def k21 : Class := { plain "[I" (some 0) with kind := .array 20 .int, interfaces := #[13, 2], accessFlags := 1041 }

def heap : Heap := #[{ cls := 7, slots := #[.long 0, .int 1, .null, .int 0, .null, .int 0, .int 0], vm := .statics 7 },
  { cls := 8, slots := #[.int 0, .int 8, .int 0, .int 1], vm := .statics 8 },
  { cls := 9, slots := #[.null, .int 0, .ref 4], vm := .statics 9 },
  { cls := 10, slots := #[.null, .null, .null], vm := .statics 10 },
  { cls := 15, slots := #[.int 0, .int 0, .int 0, .int 0, .int 0, .int 0, .int 0, .int 0, .int 0, .int 0, .int 0, .int 0, .int 0, .int 0, .int 0, .int 0, .int 0, .int 0, .int 0, .int 0, .int 0, .int 0, .int 0, .int 0, .int 0, .int 0, .int 0, .int 0, .int 0, .int 0, .int 0, .int 0, .int 0, .int 1, .int 0, .int 1, .int 1, .int 1, .int 1, .int 1, .int 0, .int 0, .int 1, .int 1, .int 0, .int 1, .int 1, .int 0, .int 1, .int 1, .int 1, .int 1, .int 1, .int 1, .int 1, .int 1, .int 1, .int 1, .int 0, .int 0, .int 0, .int 0, .int 0, .int 0, .int 0, .int 1, .int 1, .int 1, .int 1, .int 1, .int 1, .int 1, .int 1, .int 1, .int 1, .int 1, .int 1, .int 1, .int 1, .int 1, .int 1, .int 1, .int 1, .int 1, .int 1, .int 1, .int 1, .int 1, .int 1, .int 1, .int 1, .int 0, .int 0, .int 0, .int 1, .int 1, .int 1, .int 1, .int 1, .int 1, .int 1, .int 1, .int 1, .int 1, .int 1, .int 1, .int 1, .int 1, .int 1, .int 1, .int 1, .int 1, .int 1, .int 1, .int 1, .int 1, .int 1, .int 1, .int 1, .int 1, .int 1, .int 1, .int 1, .int 0, .int 1, .int 0, .int 1, .int 0], vm := .none }]
def classes : Array Class := #[k0, k1, k2, k3, k4, k5, k6, k7, k8, k9, k10, k11, k12, k13, k14, k15, k16, k17, k18, k19, k20, k21]
def interned : List (Array UInt16 × Addr) := []
def slotsUsed : Nat := 145
def theMethod : MethodId := ⟨1, 3⟩
def args0 : Array Value := #[.int 65, .int 66, .int 67, .int 12]
def aboutOver (below : List Frame) : State where
  vm := { classes := classes, interned := interned.toArray }
  heap := heap
  slotsUsed := slotsUsed
  threads := #[{ frames := .invoking theMethod args0 :: below }]
def below0 : List Frame := [.native { method := ⟨0, 0⟩, args := #[] }]
def about1 : State := aboutOver below0
def p0 : Program := .bare "" "" ""
def e0 : Env := launch0.env 0 0 0
theorem w_frames : about1.frames = Frame.invoking theMethod args0 :: below0 := rfl
set_option maxRecDepth 65536 in
theorem w_args : argsFit about1.vm theMethod args0 = true := by decide +kernel
set_option maxRecDepth 65536 in
theorem w_heap : heapFits about1 = true := by decide +kernel
set_option maxRecDepth 65536 in
theorem w_runnable : about1.curStatus? = some .runnable := by decide +kernel
set_option maxRecDepth 65536 in
theorem w_alone : about1.alone = true := by decide +kernel
set_option maxRecDepth 65536 in
theorem w_named : about1.methodNamed? x = some theMethod := by decide +kernel
set_option maxRecDepth 65536 in
theorem w_hears : about1.hears theMethod below0 = true := by decide +kernel
set_option maxRecDepth 65536 in
theorem w_ripe : about1.ripe theMethod args0 below0 = true := by decide +kernel
theorem w_running : about1.status = .running := rfl
set_option maxRecDepth 65536 in
theorem w_room : about1.hasRoom e0.platform room_1 = true :=
  launch0.hasRoom_least _ room_1 (by decide +kernel) (by decide +kernel) (by decide +kernel) (by decide +kernel) (by decide +kernel) (by decide +kernel)
theorem allAtoms_all (ts : List Jvm.Cond) (a : Array Jvm.Value) (st : Jvm.State) : (allAtoms ts).before a st = ts.all (fun c => c.before a st) := by
  induction ts with
  | nil => rfl
  | cons c t ih =>
    show (Jvm.Cond.and c (allAtoms t)).before a st = _
    rw [Jvm.Cond.before_and, ih, List.all_cons]
def words1 : List Jvm.Cond := Jvm.Cond.code x code maxLocals ret :: tables_1
/-- a 'code' word, met by the world's own term for the bytes: nothing is compared byte by byte -/
theorem code_word {y : MethodName} {bytes : ByteArray} {mx : Nat} {rt : Option FieldType} {a : Array Value} {s : State} {m : MethodId} {meth : Method} {c : Code} (h1 : s.methodNamed? y = some m) (h2 : s.vm.method? m = some meth) (h3 : meth.code = some c) (h4 : c.code = bytes)
    (h5 : (c.maxLocals == mx && c.exceptionTable.isEmpty && decide (c.maxStack ≤ mostOperands) && decide (meth.sig.returnType = rt) && !meth.locks && decide (parseMethodDescriptor y.desc = some meth.sig)) = true) : (Jvm.Cond.code y bytes mx rt).before a s = true := by
  simp only [Bool.and_eq_true, beq_iff_eq, Bool.not_eq_true', decide_eq_true_eq] at h5
  obtain ⟨⟨⟨⟨⟨g1, g2⟩, g3⟩, g4⟩, g5⟩, g6⟩ := h5
  simp [Cond.before, Cond.holds, Cond.value, h1, h2, h3, h4, g1, g2, g3, g4, g5, g6]
def isCode : Jvm.Cond → Bool
  | .code _ _ _ _ => true
  | _ => false
theorem all_split {L : List Jvm.Cond} {P : Jvm.Cond → Bool} (h1 : L.all (fun c => isCode c || P c) = true) (h2 : ∀ c ∈ L.filter isCode, P c = true) : L.all P = true := by
  refine List.all_eq_true.mpr fun c hc => ?_
  have h := List.all_eq_true.mp h1 c hc
  rcases Bool.eq_false_or_eq_true (isCode c) with hi | hi
  · exact h2 c (List.mem_filter.mpr ⟨hc, hi⟩)
  · simpa [hi] using h
set_option maxRecDepth 65536 in
theorem w_c0 : (Jvm.Cond.code x code maxLocals ret).before args0 about1 = true := code_word (m := ⟨1, 3⟩) (meth := k1m3) (c := k1c3) (by decide +kernel) rfl rfl rfl (by decide +kernel)
set_option maxRecDepth 65536 in
theorem w_c1 : (Jvm.Cond.code ({ cls := "com/example/wary_bearer/warybearer/http/Http1ReaderIsTokenPinLaw", name := "draw", desc := "(I)C" } : Jvm.MethodName) method_2_code (1 : Nat) (Option.some Jvm.ClassFile.FieldType.char)).before args0 about1 = true := code_word (m := ⟨1, 1⟩) (meth := k1m1) (c := k1c1) (by decide +kernel) rfl rfl rfl (by decide +kernel)
set_option maxRecDepth 65536 in
theorem w_c2 : (Jvm.Cond.code ({ cls := "java/lang/String", name := "<init>", desc := "([C)V" } : Jvm.MethodName) jdk_42_method_3_code (2 : Nat) (Option.none : Option Jvm.ClassFile.FieldType)).before args0 about1 = true := code_word (m := ⟨7, 1⟩) (meth := k7m1) (c := k7c1) (by decide +kernel) rfl rfl rfl (by decide +kernel)
set_option maxRecDepth 65536 in
theorem w_c3 : (Jvm.Cond.code ({ cls := "java/lang/String", name := "<init>", desc := "([CIILjava/lang/Void;)V" } : Jvm.MethodName) jdk_42_method_149_code (6 : Nat) (Option.none : Option Jvm.ClassFile.FieldType)).before args0 about1 = true := code_word (m := ⟨7, 3⟩) (meth := k7m3) (c := k7c3) (by decide +kernel) rfl rfl rfl (by decide +kernel)
set_option maxRecDepth 65536 in
theorem w_c4 : (Jvm.Cond.code ({ cls := "java/lang/Object", name := "<init>", desc := "()V" } : Jvm.MethodName) object_method_1_code (1 : Nat) (Option.none : Option Jvm.ClassFile.FieldType)).before args0 about1 = true := code_word (m := ⟨0, 0⟩) (meth := k0m0) (c := k0c0) (by decide +kernel) rfl rfl rfl (by decide +kernel)
set_option maxRecDepth 65536 in
theorem w_c5 : (Jvm.Cond.code ({ cls := "java/lang/StringUTF16", name := "compress", desc := "([CII)[B" } : Jvm.MethodName) jdk_52_method_16_code (6 : Nat) (Option.some (Jvm.ClassFile.FieldType.array Jvm.ClassFile.FieldType.byte))).before args0 about1 = true := code_word (m := ⟨8, 8⟩) (meth := k8m8) (c := k8c8) (by decide +kernel) rfl rfl rfl (by decide +kernel)
set_option maxRecDepth 65536 in
theorem w_c6 : (Jvm.Cond.code ({ cls := "java/lang/StringUTF16", name := "compress", desc := "([CI[BII)I" } : Jvm.MethodName) jdk_52_method_21_code (7 : Nat) (Option.some Jvm.ClassFile.FieldType.int)).before args0 about1 = true := code_word (m := ⟨8, 9⟩) (meth := k8m9) (c := k8c9) (by decide +kernel) rfl rfl rfl (by decide +kernel)
set_option maxRecDepth 65536 in
theorem w_c7 : (Jvm.Cond.code ({ cls := "java/lang/StringUTF16", name := "coderFromArrayLen", desc := "([BI)B" } : Jvm.MethodName) jdk_52_method_15_code (2 : Nat) (Option.some Jvm.ClassFile.FieldType.byte)).before args0 about1 = true := code_word (m := ⟨8, 7⟩) (meth := k8m7) (c := k8c7) (by decide +kernel) rfl rfl rfl (by decide +kernel)
set_option maxRecDepth 65536 in
theorem w_c8 : (Jvm.Cond.code ({ cls := "com/example/wary_bearer/warybearer/http/Http1Reader", name := "isToken", desc := "(Ljava/lang/String;II)Z" } : Jvm.MethodName) prog_13_method_12_code (5 : Nat) (Option.some Jvm.ClassFile.FieldType.boolean)).before args0 about1 = true := code_word (m := ⟨9, 0⟩) (meth := k9m0) (c := k9c0) (by decide +kernel) rfl rfl rfl (by decide +kernel)
set_option maxRecDepth 65536 in
theorem w_c9 : (Jvm.Cond.code ({ cls := "java/lang/StringUTF16", name := "toBytes", desc := "([CII)[B" } : Jvm.MethodName) jdk_52_method_14_code (5 : Nat) (Option.some (Jvm.ClassFile.FieldType.array Jvm.ClassFile.FieldType.byte))).before args0 about1 = true := code_word (m := ⟨8, 6⟩) (meth := k8m6) (c := k8c6) (by decide +kernel) rfl rfl rfl (by decide +kernel)
set_option maxRecDepth 65536 in
theorem w_c10 : (Jvm.Cond.code ({ cls := "java/lang/StringUTF16", name := "newBytesFor", desc := "(I)[B" } : Jvm.MethodName) jdk_52_method_2_code (1 : Nat) (Option.some (Jvm.ClassFile.FieldType.array Jvm.ClassFile.FieldType.byte))).before args0 about1 = true := code_word (m := ⟨8, 1⟩) (meth := k8m1) (c := k8c1) (by decide +kernel) rfl rfl rfl (by decide +kernel)
set_option maxRecDepth 65536 in
theorem w_c11 : (Jvm.Cond.code ({ cls := "java/lang/StringUTF16", name := "newBytesLength", desc := "(I)I" } : Jvm.MethodName) jdk_52_method_3_code (1 : Nat) (Option.some Jvm.ClassFile.FieldType.int)).before args0 about1 = true := code_word (m := ⟨8, 2⟩) (meth := k8m2) (c := k8c2) (by decide +kernel) rfl rfl rfl (by decide +kernel)
set_option maxRecDepth 65536 in
theorem w_c12 : (Jvm.Cond.code ({ cls := "java/lang/StringUTF16", name := "putChar", desc := "([BII)V" } : Jvm.MethodName) jdk_52_method_4_code (3 : Nat) (Option.none : Option Jvm.ClassFile.FieldType)).before args0 about1 = true := code_word (m := ⟨8, 3⟩) (meth := k8m3) (c := k8c3) (by decide +kernel) rfl rfl rfl (by decide +kernel)
set_option maxRecDepth 65536 in
theorem w_c13 : (Jvm.Cond.code ({ cls := "java/lang/StringUTF16", name := "getChar", desc := "([BI)C" } : Jvm.MethodName) jdk_52_method_5_code (2 : Nat) (Option.some Jvm.ClassFile.FieldType.char)).before args0 about1 = true := code_word (m := ⟨8, 4⟩) (meth := k8m4) (c := k8c4) (by decide +kernel) rfl rfl rfl (by decide +kernel)
set_option maxRecDepth 65536 in
theorem w_c14 : (Jvm.Cond.code ({ cls := "com/example/wary_bearer/warybearer/http/Http1ReaderIsTokenPinLaw", name := "isT", desc := "(C)Z" } : Jvm.MethodName) method_3_code (1 : Nat) (Option.some Jvm.ClassFile.FieldType.boolean)).before args0 about1 = true := code_word (m := ⟨1, 2⟩) (meth := k1m2) (c := k1c2) (by decide +kernel) rfl rfl rfl (by decide +kernel)
set_option maxRecDepth 65536 in
theorem w_c15 : (Jvm.Cond.code ({ cls := "java/lang/String", name := "charAt", desc := "(I)C" } : Jvm.MethodName) jdk_42_method_56_code (2 : Nat) (Option.some Jvm.ClassFile.FieldType.char)).before args0 about1 = true := code_word (m := ⟨7, 2⟩) (meth := k7m2) (c := k7c2) (by decide +kernel) rfl rfl rfl (by decide +kernel)
set_option maxRecDepth 65536 in
theorem w_c16 : (Jvm.Cond.code ({ cls := "java/lang/String", name := "isLatin1", desc := "()Z" } : Jvm.MethodName) jdk_42_method_154_code (1 : Nat) (Option.some Jvm.ClassFile.FieldType.boolean)).before args0 about1 = true := code_word (m := ⟨7, 4⟩) (meth := k7m4) (c := k7c4) (by decide +kernel) rfl rfl rfl (by decide +kernel)
set_option maxRecDepth 65536 in
theorem w_c17 : (Jvm.Cond.code ({ cls := "java/lang/StringUTF16", name := "charAt", desc := "([BI)C" } : Jvm.MethodName) jdk_52_method_83_code (2 : Nat) (Option.some Jvm.ClassFile.FieldType.char)).before args0 about1 = true := code_word (m := ⟨8, 10⟩) (meth := k8m10) (c := k8c10) (by decide +kernel) rfl rfl rfl (by decide +kernel)
set_option maxRecDepth 65536 in
theorem w_c18 : (Jvm.Cond.code ({ cls := "java/lang/StringUTF16", name := "checkIndex", desc := "(I[B)V" } : Jvm.MethodName) jdk_52_method_91_code (2 : Nat) (Option.none : Option Jvm.ClassFile.FieldType)).before args0 about1 = true := code_word (m := ⟨8, 11⟩) (meth := k8m11) (c := k8c11) (by decide +kernel) rfl rfl rfl (by decide +kernel)
set_option maxRecDepth 65536 in
theorem w_c19 : (Jvm.Cond.code ({ cls := "java/lang/StringUTF16", name := "length", desc := "([B)I" } : Jvm.MethodName) jdk_52_method_6_code (1 : Nat) (Option.some Jvm.ClassFile.FieldType.int)).before args0 about1 = true := code_word (m := ⟨8, 5⟩) (meth := k8m5) (c := k8c5) (by decide +kernel) rfl rfl rfl (by decide +kernel)
set_option maxRecDepth 65536 in
theorem w_c20 : (Jvm.Cond.code ({ cls := "java/lang/String", name := "checkIndex", desc := "(II)V" } : Jvm.MethodName) jdk_42_method_155_code (2 : Nat) (Option.none : Option Jvm.ClassFile.FieldType)).before args0 about1 = true := code_word (m := ⟨7, 5⟩) (meth := k7m5) (c := k7c5) (by decide +kernel) rfl rfl rfl (by decide +kernel)
set_option maxRecDepth 65536 in
theorem w_c21 : (Jvm.Cond.code ({ cls := "jdk/internal/util/Preconditions", name := "checkIndex", desc := "(IILjava/util/function/BiFunction;)I" } : Jvm.MethodName) jdk_41_method_11_code (3 : Nat) (Option.some Jvm.ClassFile.FieldType.int)).before args0 about1 = true := code_word (m := ⟨10, 1⟩) (meth := k10m1) (c := k10c1) (by decide +kernel) rfl rfl rfl (by decide +kernel)
set_option maxRecDepth 65536 in
theorem w_c22 : (Jvm.Cond.code ({ cls := "java/lang/StringLatin1", name := "charAt", desc := "([BI)C" } : Jvm.MethodName) jdk_43_method_2_code (2 : Nat) (Option.some Jvm.ClassFile.FieldType.char)).before args0 about1 = true := code_word (m := ⟨11, 1⟩) (meth := k11m1) (c := k11c1) (by decide +kernel) rfl rfl rfl (by decide +kernel)
def codes1 : List Jvm.Cond := [Jvm.Cond.code x code maxLocals ret, Jvm.Cond.code ({ cls := "com/example/wary_bearer/warybearer/http/Http1ReaderIsTokenPinLaw", name := "draw", desc := "(I)C" } : Jvm.MethodName) method_2_code (1 : Nat) (Option.some Jvm.ClassFile.FieldType.char), Jvm.Cond.code ({ cls := "java/lang/String", name := "<init>", desc := "([C)V" } : Jvm.MethodName) jdk_42_method_3_code (2 : Nat) (Option.none : Option Jvm.ClassFile.FieldType), Jvm.Cond.code ({ cls := "java/lang/String", name := "<init>", desc := "([CIILjava/lang/Void;)V" } : Jvm.MethodName) jdk_42_method_149_code (6 : Nat) (Option.none : Option Jvm.ClassFile.FieldType), Jvm.Cond.code ({ cls := "java/lang/Object", name := "<init>", desc := "()V" } : Jvm.MethodName) object_method_1_code (1 : Nat) (Option.none : Option Jvm.ClassFile.FieldType), Jvm.Cond.code ({ cls := "java/lang/StringUTF16", name := "compress", desc := "([CII)[B" } : Jvm.MethodName) jdk_52_method_16_code (6 : Nat) (Option.some (Jvm.ClassFile.FieldType.array Jvm.ClassFile.FieldType.byte)), Jvm.Cond.code ({ cls := "java/lang/StringUTF16", name := "compress", desc := "([CI[BII)I" } : Jvm.MethodName) jdk_52_method_21_code (7 : Nat) (Option.some Jvm.ClassFile.FieldType.int), Jvm.Cond.code ({ cls := "java/lang/StringUTF16", name := "coderFromArrayLen", desc := "([BI)B" } : Jvm.MethodName) jdk_52_method_15_code (2 : Nat) (Option.some Jvm.ClassFile.FieldType.byte), Jvm.Cond.code ({ cls := "com/example/wary_bearer/warybearer/http/Http1Reader", name := "isToken", desc := "(Ljava/lang/String;II)Z" } : Jvm.MethodName) prog_13_method_12_code (5 : Nat) (Option.some Jvm.ClassFile.FieldType.boolean), Jvm.Cond.code ({ cls := "java/lang/StringUTF16", name := "toBytes", desc := "([CII)[B" } : Jvm.MethodName) jdk_52_method_14_code (5 : Nat) (Option.some (Jvm.ClassFile.FieldType.array Jvm.ClassFile.FieldType.byte)), Jvm.Cond.code ({ cls := "java/lang/StringUTF16", name := "newBytesFor", desc := "(I)[B" } : Jvm.MethodName) jdk_52_method_2_code (1 : Nat) (Option.some (Jvm.ClassFile.FieldType.array Jvm.ClassFile.FieldType.byte)), Jvm.Cond.code ({ cls := "java/lang/StringUTF16", name := "newBytesLength", desc := "(I)I" } : Jvm.MethodName) jdk_52_method_3_code (1 : Nat) (Option.some Jvm.ClassFile.FieldType.int), Jvm.Cond.code ({ cls := "java/lang/StringUTF16", name := "putChar", desc := "([BII)V" } : Jvm.MethodName) jdk_52_method_4_code (3 : Nat) (Option.none : Option Jvm.ClassFile.FieldType), Jvm.Cond.code ({ cls := "java/lang/StringUTF16", name := "getChar", desc := "([BI)C" } : Jvm.MethodName) jdk_52_method_5_code (2 : Nat) (Option.some Jvm.ClassFile.FieldType.char), Jvm.Cond.code ({ cls := "com/example/wary_bearer/warybearer/http/Http1ReaderIsTokenPinLaw", name := "isT", desc := "(C)Z" } : Jvm.MethodName) method_3_code (1 : Nat) (Option.some Jvm.ClassFile.FieldType.boolean), Jvm.Cond.code ({ cls := "java/lang/String", name := "charAt", desc := "(I)C" } : Jvm.MethodName) jdk_42_method_56_code (2 : Nat) (Option.some Jvm.ClassFile.FieldType.char), Jvm.Cond.code ({ cls := "java/lang/String", name := "isLatin1", desc := "()Z" } : Jvm.MethodName) jdk_42_method_154_code (1 : Nat) (Option.some Jvm.ClassFile.FieldType.boolean), Jvm.Cond.code ({ cls := "java/lang/StringUTF16", name := "charAt", desc := "([BI)C" } : Jvm.MethodName) jdk_52_method_83_code (2 : Nat) (Option.some Jvm.ClassFile.FieldType.char), Jvm.Cond.code ({ cls := "java/lang/StringUTF16", name := "checkIndex", desc := "(I[B)V" } : Jvm.MethodName) jdk_52_method_91_code (2 : Nat) (Option.none : Option Jvm.ClassFile.FieldType), Jvm.Cond.code ({ cls := "java/lang/StringUTF16", name := "length", desc := "([B)I" } : Jvm.MethodName) jdk_52_method_6_code (1 : Nat) (Option.some Jvm.ClassFile.FieldType.int), Jvm.Cond.code ({ cls := "java/lang/String", name := "checkIndex", desc := "(II)V" } : Jvm.MethodName) jdk_42_method_155_code (2 : Nat) (Option.none : Option Jvm.ClassFile.FieldType), Jvm.Cond.code ({ cls := "jdk/internal/util/Preconditions", name := "checkIndex", desc := "(IILjava/util/function/BiFunction;)I" } : Jvm.MethodName) jdk_41_method_11_code (3 : Nat) (Option.some Jvm.ClassFile.FieldType.int), Jvm.Cond.code ({ cls := "java/lang/StringLatin1", name := "charAt", desc := "([BI)C" } : Jvm.MethodName) jdk_43_method_2_code (2 : Nat) (Option.some Jvm.ClassFile.FieldType.char)]
set_option maxRecDepth 65536 in
theorem codes_eq : words1.filter isCode = codes1 := rfl
theorem w_codes : ∀ c ∈ words1.filter isCode, c.before args0 about1 = true := by
  rw [codes_eq]
  intro c hc
  simp only [codes1, List.mem_cons, List.not_mem_nil, or_false] at hc
  rcases hc with rfl | rfl | rfl | rfl | rfl | rfl | rfl | rfl | rfl | rfl | rfl | rfl | rfl | rfl | rfl | rfl | rfl | rfl | rfl | rfl | rfl | rfl | rfl
  · exact w_c0
  · exact w_c1
  · exact w_c2
  · exact w_c3
  · exact w_c4
  · exact w_c5
  · exact w_c6
  · exact w_c7
  · exact w_c8
  · exact w_c9
  · exact w_c10
  · exact w_c11
  · exact w_c12
  · exact w_c13
  · exact w_c14
  · exact w_c15
  · exact w_c16
  · exact w_c17
  · exact w_c18
  · exact w_c19
  · exact w_c20
  · exact w_c21
  · exact w_c22
set_option maxRecDepth 65536 in
theorem w_t1 : (words1.take 24).all (fun c => isCode c || c.before args0 about1) = true := by decide +kernel
set_option maxRecDepth 65536 in
theorem w_t2 : ((words1.drop 24).take 24).all (fun c => isCode c || c.before args0 about1) = true := by decide +kernel
set_option maxRecDepth 65536 in
theorem w_t3 : (((words1.drop 24).drop 24).take 24).all (fun c => isCode c || c.before args0 about1) = true := by decide +kernel
set_option maxRecDepth 65536 in
theorem w_t4 : ((((words1.drop 24).drop 24).drop 24).take 24).all (fun c => isCode c || c.before args0 about1) = true := by decide +kernel
set_option maxRecDepth 65536 in
theorem w_t5 : ((((words1.drop 24).drop 24).drop 24).drop 24).all (fun c => isCode c || c.before args0 about1) = true := by decide +kernel
theorem w_tables : (allAtoms (Jvm.Cond.code x code maxLocals ret :: tables_1)).before args0 about1 = true := by
  rw [allAtoms_all]
  show words1.all (fun c => c.before args0 about1) = true
  refine all_split ?_ w_codes
  rw [← List.take_append_drop 24 words1, List.all_append, w_t1, ← List.take_append_drop 24 (words1.drop 24), List.all_append, w_t2, ← List.take_append_drop 24 ((words1.drop 24).drop 24), List.all_append, w_t3, ← List.take_append_drop 24 (((words1.drop 24).drop 24).drop 24), List.all_append, w_t4, w_t5]
  rfl
set_option maxRecDepth 65536 in
theorem w_rest : rest_1_c.before args0 about1 = true := by decide +kernel
set_option maxRecDepth 65536 in
theorem w_case : (Jvm.Cond.and given_1 narrow_1).before args0 about1 = true := by decide +kernel
theorem w_applies : (headSpec (Jvm.Cond.code x code maxLocals ret :: tables_1) room_1).applies x e0.platform about1 = true :=
  (Spec.applies_iff w_frames).mpr ⟨w_running, w_runnable, w_alone, w_named, w_hears, w_ripe, w_room, w_tables⟩
theorem atStart : AtStart classFile x code maxLocals ret World_1 tables_1 room_1 Calls_1 rest_1 Pre_1 launch0 p0 e0 about1 theMethod args0 below0 :=
  ⟨lists_1, trivial, launch0.admits_env _ _ _, launch0.least_env, fairChoices_fair.cas, fairChoices_fair.clock, w_frames, w_args, w_heap, w_applies, trivial, w_rest, w_case⟩
end start1
theorem witness_1 : WitnessClaimed_1 := ⟨start1.p0, start1.e0, start1.about1, start1.theMethod, start1.args0, start1.below0, start1.atStart⟩
end Jvm.Pilot.@@N@@
