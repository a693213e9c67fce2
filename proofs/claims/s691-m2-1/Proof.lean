import JvmDerived
import JvmDerived.Pilot.@@N@@Statement
import JvmDerived.Pilot.@@N@@Code
set_option linter.unusedVariables false
set_option linter.unusedSimpArgs false
namespace Jvm.RoadKit
open Sem ClassFile Op Lib Jvm.Stand Jvm.Free Jvm.LawKit
section New
variable {p : Program} {l : Launch} {e : Env} {R : Room} {s : State} {m : MethodId} {args : Array Value} {below : List Frame} {meth : Method} {c : Code} {T : State} {locs : List Loc} {cells slots : Nat}
theorem retI (X : Stand p l e R s m args below meth c T locs cells slots) (hx : p.tables.exec = Jvm.exec) {pc : Nat} {Ls : Array Slot} {z : Int32} {rest : List Value} (hret : meth.sig.returnType = some .int) (hd : decode c.code pc = .ok (.ireturn, 1)) {fs : List Frame}
    (hl : ∀ (f : JFrame) (acts : List Action), f.method = m → f.locked = none → f.entered = [] → (doReturn e (T.setTop f) acts (some (.int z))).1 = T.setFrames fs) : Steps p.tables e below (T.setTop (mkF m pc Ls (.int z :: rest))) (T.setFrames fs) := by
  have hm' : T.vm.method? m = some meth := X.method'
  have hn : narrow .int (.int z) = .int z := rfl
  show Steps p.tables e below (T.setTop { method := m, pc := pc, locals := Ls, stack := _ :: rest, locked := none }) _
  jvm_step X.here [X.here.top, hx, hd, hm', hret, hn]
  first | (intro acts; rw [hl _ acts rfl rfl rfl]) | rw [hl _ _ rfl rfl rfl]
  exact Steps.refl _
end New
end Jvm.RoadKit
namespace Jvm.Pilot.@@N@@
open Jvm Jvm.ClassFile Sem Op Lib Jvm.Free Jvm.Stand Jvm.LawKit Jvm.RoadKit Bundle Jvm.Pilot.@@N@@.Jvm.D
theorem own_b53 (x : Int32) : B53 x.toInt64 := by
  have r := rng32 x
  have e := c_i2l x
  exact ⟨by rw [e]; omega, by rw [e]; omega⟩
theorem own_dcmp (x y : Int32) (o : CmpOp) : cmpValue (FP.dcmp (FP.i2d x) (FP.i2d y)) o = lcmpW (x.toInt64) (y.toInt64) := by
  rw [i2d_w, i2d_w]; exact dcmpV_w (own_b53 x) (own_b53 y) o
theorem own_l64 {x y : Int32} : (x.toInt64) < (y.toInt64) ↔ x < y := by rw [Int64.lt_iff_toInt_lt, Int32.lt_iff_toInt_lt, c_i2l, c_i2l]
theorem own_e64 {x y : Int32} : (x.toInt64) = (y.toInt64) ↔ x = y := by rw [← Int64.toInt_inj, ← Int32.toInt_inj, c_i2l, c_i2l]
theorem d5_0 : decode jdk_22_method_1_code 0 = .ok (.aload_n 0, 1) := by decide +kernel
theorem d5_1 : decode jdk_22_method_1_code 1 = .ok (.invokespecial 1, 3) := by decide +kernel
theorem d5_4 : decode jdk_22_method_1_code 4 = .ok (.return_, 1) := by decide +kernel
def Q5 (Z : State) (r0 : Addr) (h0 : Heap) (n0 : Nat) (v : Option Value) (h : Heap) (L : List Loc) : Prop := v = none ∧ Fr n0 L ∧ h = h0
theorem ef_rm5 (m : MethodId) (x0 : Addr) : entryFrame m #[(.ref x0)] 1 = mkF m 0 #[.val (.ref x0)] [] := by first | (simp [entryFrame, mkF, argsToLocals, Value.category]; done) | rfl
theorem pnc_java_util_AbstractCollection : plainName "java/util/AbstractCollection" = true := by first | (simp [plainName, overriddenIn]; done) | decide +kernel
set_option maxRecDepth 65536 in
set_option maxHeartbeats 40000000 in
theorem rm5 (l : Launch) (Z : State) (a0 : Array Value) (hw : ∀ d ∈ tables_1, d.before a0 Z = true) (ws : List Jvm.Cond) (r0 : Addr) (h0 : Heap) (n0 : Nat) (Z0 : n0 ≤ h0.size) :
    MetFree l (⟨"java/util/AbstractCollection", "<init>", "()V"⟩ : MethodName) (head1 (Jvm.Cond.code (⟨"java/util/AbstractCollection", "<init>", "()V"⟩ : MethodName) jdk_22_method_1_code 1 none :: ws) ({ frames := 1, cells := 0, slots := 0, locals := 12 } : Room)) (fun a U => a = #[(.ref r0)] ∧ Z.Warmed39 U.vm ∧ U.heap = h0) (fun _ _ _ _ _ => True) (fun _ U o U' => ∃ v L, o = .returned v ∧ Q5 Z r0 h0 n0 v U'.heap L ∧ FrameEnd U o U' L ({ frames := 1, cells := 0, slots := 0, locals := 12 } : Room).cells ({ frames := 1, cells := 0, slots := 0, locals := 12 } : Room).slots) := by
  refine MetFree.of_bodySF (plainFor_of_name pnc_java_util_AbstractCollection) hisR ?_
  intro p e s m args below meth c s₁ Bd hml0 hP hK
  obtain ⟨rfl, hZ, hh⟩ := hP
  have hx := Bd.exec
  have hby := Bd.bytes
  have hml : c.maxLocals = 1 := hml0
  have hown : s.vm.findClass "java/util/AbstractCollection" = some m.cls := findClass_of_methodNamed Bd.named
  have hnm := (name_of_methodNamed Bd.named Bd.method).1
  have X0 : Stand p l e ({ frames := 1, cells := 0, slots := 0, locals := 12 } : Room) s m #[(.ref r0)] below meth c s₁ [] 0 0 := Stand.of_body Bd
  have e0 : s₁.heap = h0 := by rw [← hh, Bd.state]; rfl
  have N0 := Fr.nil n0
  have kp0 : Keep h0 h0 [] := Keep.refl _ _
  have G0 : ∀ t, Steps p.tables e below (s₁.setTop (mkF m 0 #[.val (.ref r0)] [])) t → Steps p.tables e below (s₁.setTop (entryFrame m #[(.ref r0)] 1)) t := fun t k => castTop (ef_rm5 m r0) k
  obtain ⟨T1, X1, e1, st1⟩ := initO X0 hx hZ hown (hw _ (List.mem_of_getElem? (i := 27) rfl)) (hw _ (List.mem_of_getElem? (i := 7) rfl)) (hw _ (List.mem_of_getElem? (i := 8) rfl)) e0 (g := (mkF m 1 #[.val (.ref r0)] [(.ref r0)])) rfl (by rw [hml]; rfl) rfl (hb hby d5_1) (by decide) (W := 0) (by show 2 * 0 + _ ≤ _; exact Nat.le_of_eq rfl) (by decide)
  obtain ⟨fs, hr, hrun, hended, hW, hsame⟩ := X1.leave (v := none) (fun _ => rfl)
  refine ⟨_, _, G0 _ ?_, hrun, hended, _, _, rfl, ?_, ⟨_, rfl⟩, hW, hsame.mono (by decide) (by decide)⟩
  · skip
    show Steps p.tables e below (s₁.setTop (mkF m 0 #[.val (.ref r0)] [])) _
    refine XS.aloadN X0.here hx rfl (hb hby d5_0) rfl rfl ?_
    show Steps p.tables e below (s₁.setTop (mkF m 1 #[.val (.ref r0)] [(.ref r0)])) _
    refine st1 _ ?_
    show Steps p.tables e below (T1.setTop (mkF m 4 #[.val (.ref r0)] [])) _
    exact X1.returnOut hx Bd.returns (hb hby d5_4) hr
  · show Q5 Z r0 h0 n0 _ T1.heap _
    rw [e1]
    exact ⟨rfl, N0, rfl⟩
theorem d7_0 : decode jdk_30_method_1_code 0 = .ok (.aload_n 0, 1) := by decide +kernel
theorem d7_1 : decode jdk_30_method_1_code 1 = .ok (.invokespecial 1, 3) := by decide +kernel
theorem d7_4 : decode jdk_30_method_1_code 4 = .ok (.return_, 1) := by decide +kernel
def Q7 (Z : State) (r0 : Addr) (h0 : Heap) (n0 : Nat) (v : Option Value) (h : Heap) (L : List Loc) : Prop := v = none ∧ Fr n0 L ∧ h = h0
theorem ef_rm7 (m : MethodId) (x0 : Addr) : entryFrame m #[(.ref x0)] 1 = mkF m 0 #[.val (.ref x0)] [] := by first | (simp [entryFrame, mkF, argsToLocals, Value.category]; done) | rfl
theorem pnc_java_lang_Record : plainName "java/lang/Record" = true := by first | (simp [plainName, overriddenIn]; done) | decide +kernel
set_option maxRecDepth 65536 in
set_option maxHeartbeats 40000000 in
theorem rm7 (l : Launch) (Z : State) (a0 : Array Value) (hw : ∀ d ∈ tables_1, d.before a0 Z = true) (ws : List Jvm.Cond) (r0 : Addr) (h0 : Heap) (n0 : Nat) (Z0 : n0 ≤ h0.size) :
    MetFree l (⟨"java/lang/Record", "<init>", "()V"⟩ : MethodName) (head1 (Jvm.Cond.code (⟨"java/lang/Record", "<init>", "()V"⟩ : MethodName) jdk_30_method_1_code 1 none :: ws) ({ frames := 1, cells := 0, slots := 0, locals := 12 } : Room)) (fun a U => a = #[(.ref r0)] ∧ Z.Warmed39 U.vm ∧ U.heap = h0) (fun _ _ _ _ _ => True) (fun _ U o U' => ∃ v L, o = .returned v ∧ Q7 Z r0 h0 n0 v U'.heap L ∧ FrameEnd U o U' L ({ frames := 1, cells := 0, slots := 0, locals := 12 } : Room).cells ({ frames := 1, cells := 0, slots := 0, locals := 12 } : Room).slots) := by
  refine MetFree.of_bodySF (plainFor_of_name pnc_java_lang_Record) hisR ?_
  intro p e s m args below meth c s₁ Bd hml0 hP hK
  obtain ⟨rfl, hZ, hh⟩ := hP
  have hx := Bd.exec
  have hby := Bd.bytes
  have hml : c.maxLocals = 1 := hml0
  have hown : s.vm.findClass "java/lang/Record" = some m.cls := findClass_of_methodNamed Bd.named
  have hnm := (name_of_methodNamed Bd.named Bd.method).1
  have X0 : Stand p l e ({ frames := 1, cells := 0, slots := 0, locals := 12 } : Room) s m #[(.ref r0)] below meth c s₁ [] 0 0 := Stand.of_body Bd
  have e0 : s₁.heap = h0 := by rw [← hh, Bd.state]; rfl
  have N0 := Fr.nil n0
  have kp0 : Keep h0 h0 [] := Keep.refl _ _
  have G0 : ∀ t, Steps p.tables e below (s₁.setTop (mkF m 0 #[.val (.ref r0)] [])) t → Steps p.tables e below (s₁.setTop (entryFrame m #[(.ref r0)] 1)) t := fun t k => castTop (ef_rm7 m r0) k
  obtain ⟨T1, X1, e1, st1⟩ := initO X0 hx hZ hown (hw _ (List.mem_of_getElem? (i := 56) rfl)) (hw _ (List.mem_of_getElem? (i := 7) rfl)) (hw _ (List.mem_of_getElem? (i := 8) rfl)) e0 (g := (mkF m 1 #[.val (.ref r0)] [(.ref r0)])) rfl (by rw [hml]; rfl) rfl (hb hby d7_1) (by decide) (W := 0) (by show 2 * 0 + _ ≤ _; exact Nat.le_of_eq rfl) (by decide)
  obtain ⟨fs, hr, hrun, hended, hW, hsame⟩ := X1.leave (v := none) (fun _ => rfl)
  refine ⟨_, _, G0 _ ?_, hrun, hended, _, _, rfl, ?_, ⟨_, rfl⟩, hW, hsame.mono (by decide) (by decide)⟩
  · skip
    show Steps p.tables e below (s₁.setTop (mkF m 0 #[.val (.ref r0)] [])) _
    refine XS.aloadN X0.here hx rfl (hb hby d7_0) rfl rfl ?_
    show Steps p.tables e below (s₁.setTop (mkF m 1 #[.val (.ref r0)] [(.ref r0)])) _
    refine st1 _ ?_
    show Steps p.tables e below (T1.setTop (mkF m 4 #[.val (.ref r0)] [])) _
    exact X1.returnOut hx Bd.returns (hb hby d7_4) hr
  · show Q7 Z r0 h0 n0 _ T1.heap _
    rw [e1]
    exact ⟨rfl, N0, rfl⟩
theorem d4_0 : decode jdk_39_method_1_code 0 = .ok (.aload_n 0, 1) := by decide +kernel
theorem d4_1 : decode jdk_39_method_1_code 1 = .ok (.invokespecial 1, 3) := by decide +kernel
theorem pd_0 : parseMethodDescriptor "()V" = some ⟨[], none⟩ := by decide +kernel
theorem d4_4 : decode jdk_39_method_1_code 4 = .ok (.aload_n 0, 1) := by decide +kernel
theorem d4_5 : decode jdk_39_method_1_code 5 = .ok (.iconst 0, 1) := by decide +kernel
theorem d4_6 : decode jdk_39_method_1_code 6 = .ok (.putfield 7, 3) := by decide +kernel
theorem d4_9 : decode jdk_39_method_1_code 9 = .ok (.return_, 1) := by decide +kernel
def Q4 (Z : State) (r0 : Addr) (h0 : Heap) (n0 : Nat) (v : Option Value) (h : Heap) (L : List Loc) : Prop := v = none ∧ Fr n0 L ∧ Keep h0 h [r0] ∧ Exa Z h r0 "java/util/ArrayList" ∧ Fld Z h r0 "java/util/ArrayList" "elementData" "[Ljava/lang/Object;" .null
theorem ef_rm4 (m : MethodId) (x0 : Addr) : entryFrame m #[(.ref x0)] 1 = mkF m 0 #[.val (.ref x0)] [] := by first | (simp [entryFrame, mkF, argsToLocals, Value.category]; done) | rfl
theorem pnc_java_util_AbstractList : plainName "java/util/AbstractList" = true := by first | (simp [plainName, overriddenIn]; done) | decide +kernel
set_option maxRecDepth 65536 in
set_option maxHeartbeats 40000000 in
theorem rm4 (l : Launch) (Z : State) (a0 : Array Value) (hw : ∀ d ∈ tables_1, d.before a0 Z = true) (ws : List Jvm.Cond) (r0 : Addr) (h0 : Heap) (n0 : Nat) (Z0 : n0 ≤ h0.size) (E0 : Exa Z h0 r0 "java/util/ArrayList") (Fm : Fld Z h0 r0 "java/util/AbstractList" "modCount" "I" (.int (0 : Int32))) (Fe : Fld Z h0 r0 "java/util/ArrayList" "elementData" "[Ljava/lang/Object;" .null) (g_r0 : n0 ≤ r0) :
    MetFree l (⟨"java/util/AbstractList", "<init>", "()V"⟩ : MethodName) (head1 (Jvm.Cond.code (⟨"java/util/AbstractList", "<init>", "()V"⟩ : MethodName) jdk_39_method_1_code 1 none :: ws) ({ frames := 2, cells := 0, slots := 0, locals := 24 } : Room)) (fun a U => a = #[(.ref r0)] ∧ Z.Warmed39 U.vm ∧ U.heap = h0) (fun _ _ _ _ _ => True) (fun _ U o U' => ∃ v L, o = .returned v ∧ Q4 Z r0 h0 n0 v U'.heap L ∧ FrameEnd U o U' L ({ frames := 2, cells := 0, slots := 0, locals := 24 } : Room).cells ({ frames := 2, cells := 0, slots := 0, locals := 24 } : Room).slots) := by
  refine MetFree.of_bodySF (plainFor_of_name pnc_java_util_AbstractList) hisR ?_
  intro p e s m args below meth c s₁ Bd hml0 hP hK
  obtain ⟨rfl, hZ, hh⟩ := hP
  have hx := Bd.exec
  have hby := Bd.bytes
  have hml : c.maxLocals = 1 := hml0
  have hown : s.vm.findClass "java/util/AbstractList" = some m.cls := findClass_of_methodNamed Bd.named
  have hnm := (name_of_methodNamed Bd.named Bd.method).1
  have X0 : Stand p l e ({ frames := 2, cells := 0, slots := 0, locals := 24 } : Room) s m #[(.ref r0)] below meth c s₁ [] 0 0 := Stand.of_body Bd
  have e0 : s₁.heap = h0 := by rw [← hh, Bd.state]; rfl
  have N0 := Fr.nil n0
  have kp0 : Keep h0 h0 [r0] := Keep.refl _ _
  have G0 : ∀ t, Steps p.tables e below (s₁.setTop (mkF m 0 #[.val (.ref r0)] [])) t → Steps p.tables e below (s₁.setTop (entryFrame m #[(.ref r0)] 1)) t := fun t k => castTop (ef_rm4 m r0) k
  obtain ⟨_, _, ⟨T1, L1, k1, n1⟩, -, X1, ⟨Lc1, hQ1, l1, y1, z1⟩, st1⟩ := X0.specialBack hx (y := (⟨"java/util/AbstractCollection", "<init>", "()V"⟩ : MethodName)) rfl hown (mvT hZ (hw _ (List.mem_of_getElem? (i := 21) rfl))) (mvT hZ (hw _ (List.mem_of_getElem? (i := 22) rfl))) (mvT hZ (hw _ (List.mem_of_getElem? (i := 26) rfl))) (by decide) (backOf (W := 0) (rm5 l Z a0 hw [] r0  h0 n0 Z0 ) hZ (hw _ (List.mem_of_getElem? (i := 26) rfl)) (hw _ (List.mem_of_getElem? (i := 25) rfl)) (by decide) (by decide)) (g := (mkF m 1 #[.val (.ref r0)] [(.ref r0)])) rfl (by rw [hml]; rfl) (Steps.refl _) (a := r0) (argsL := []) (rest := []) (lenOf pd_0 rfl) rfl (by show 2 * 0 + _ ≤ _; exact Nat.le_of_eq rfl) (hb hby d4_1) (fun _ _ => ⟨rfl, e0, (by decide : 0 + 0 ≤ _), (by decide : 0 + 0 ≤ _)⟩)
  dsimp only [Pt.U, Pt.locs, Pt.cells, Pt.slots] at X1 l1 y1 z1 st1 hQ1
  subst l1 y1 z1
  obtain ⟨rfl, N1q, eh1⟩ := hQ1
  have N1 := Fr.app N0 N1q
  obtain ⟨T2, h2, X2, e2, W2, st2⟩ := putF X1 hx hZ hown (host := "") (Or.inl (hw _ (List.mem_of_getElem? (i := 28) rfl))) Via.refl eh1 Fm E0 (Or.inl (hw _ (List.mem_of_getElem? (i := 29) rfl))) (hw _ (List.mem_of_getElem? (i := 10) rfl)) (ty := .int) (by decide) rfl rfl (g := (mkF m 6 #[.val (.ref r0)] [(.int (0 : Int32)), (.ref r0)])) rfl rfl (hb hby d4_6)
  have f3 : Exa Z h2 r0 "java/util/ArrayList" := E0.wr W2
  have f4 : Fld Z h2 r0 "java/util/AbstractList" "modCount" "I" (.int (0 : Int32)) := Fm.same W2
  have f5 : Fld Z h2 r0 "java/util/ArrayList" "elementData" "[Ljava/lang/Object;" .null := Fe.other W2 (Or.inr (slot_ne (Or.inl (hw _ (List.mem_of_getElem? (i := 32) rfl))) (Or.inl (hw _ (List.mem_of_getElem? (i := 29) rfl))) (by decide) (t := (.array (.object "java/lang/Object"))) (t' := .int) (by decide) (by decide)))
  have z6 : n0 ≤ h2.size := Nat.le_trans Z0 (Nat.le_of_eq W2.size.symm)
  have kp7 : Keep h0 h2 [r0] := kp0.wr W2 (Or.inl (List.mem_of_getElem? (i := 0) rfl))
  have N2 := Fr.snoc X2 N1 g_r0
  obtain ⟨fs, hr, hrun, hended, hW, hsame⟩ := X2.leave (v := none) (fun _ => rfl)
  refine ⟨_, _, G0 _ ?_, hrun, hended, _, _, rfl, ?_, ⟨_, rfl⟩, hW, hsame.mono (by decide) (by decide)⟩
  · skip
    show Steps p.tables e below (s₁.setTop (mkF m 0 #[.val (.ref r0)] [])) _
    refine XS.aloadN X0.here hx rfl (hb hby d4_0) rfl rfl ?_
    show Steps p.tables e below (s₁.setTop (mkF m 1 #[.val (.ref r0)] [(.ref r0)])) _
    refine st1.trans ?_
    show Steps p.tables e below (T1.setTop (mkF m 4 #[.val (.ref r0)] [])) _
    refine XS.aloadN X1.here hx rfl (hb hby d4_4) rfl rfl ?_
    show Steps p.tables e below (T1.setTop (mkF m 5 #[.val (.ref r0)] [(.ref r0)])) _
    refine XS.iconst X1.here hx rfl (hb hby d4_5) ?_
    show Steps p.tables e below (T1.setTop (mkF m 6 #[.val (.ref r0)] [(.int (0 : Int32)), (.ref r0)])) _
    refine st2 _ ?_
    show Steps p.tables e below (T2.setTop (mkF m 9 #[.val (.ref r0)] [])) _
    exact X2.returnOut hx Bd.returns (hb hby d4_9) hr
  · show Q4 Z r0 h0 n0 _ T2.heap _
    rw [e2]
    exact ⟨rfl, N2, kp7, f3, f5⟩
theorem d3_0 : decode jdk_38_method_2_code 0 = .ok (.aload_n 0, 1) := by decide +kernel
theorem d3_1 : decode jdk_38_method_2_code 1 = .ok (.invokespecial 1, 3) := by decide +kernel
theorem d3_4 : decode jdk_38_method_2_code 4 = .ok (.aload_n 0, 1) := by decide +kernel
theorem d3_5 : decode jdk_38_method_2_code 5 = .ok (.getstatic 39, 3) := by decide +kernel
theorem d3_8 : decode jdk_38_method_2_code 8 = .ok (.putfield 9, 3) := by decide +kernel
theorem d3_11 : decode jdk_38_method_2_code 11 = .ok (.return_, 1) := by decide +kernel
def Q3 (Z : State) (r0 : Addr) (dca : Addr) (h0 : Heap) (n0 : Nat) (v : Option Value) (h : Heap) (L : List Loc) : Prop := v = none ∧ Fr n0 L ∧ Keep h0 h [r0] ∧ Exa Z h r0 "java/util/ArrayList"
theorem ef_rm3 (m : MethodId) (x0 : Addr) : entryFrame m #[(.ref x0)] 1 = mkF m 0 #[.val (.ref x0)] [] := by first | (simp [entryFrame, mkF, argsToLocals, Value.category]; done) | rfl
theorem pnc_java_util_ArrayList : plainName "java/util/ArrayList" = true := by first | (simp [plainName, overriddenIn]; done) | decide +kernel
set_option maxRecDepth 65536 in
set_option maxHeartbeats 40000000 in
theorem rm3 (l : Launch) (Z : State) (a0 : Array Value) (hw : ∀ d ∈ tables_1, d.before a0 Z = true) (ws : List Jvm.Cond) (r0 : Addr) (dca : Addr) (h0 : Heap) (n0 : Nat) (Z0 : n0 ≤ h0.size) (E0 : Exa Z h0 r0 "java/util/ArrayList") (Fm : Fld Z h0 r0 "java/util/AbstractList" "modCount" "I" (.int (0 : Int32))) (Fe : Fld Z h0 r0 "java/util/ArrayList" "elementData" "[Ljava/lang/Object;" .null) (O0 : Old Z n0 h0) (g_r0 : n0 ≤ r0) (SD : Sta Z Z.heap "java/util/ArrayList" "DEFAULTCAPACITY_EMPTY_ELEMENTDATA" "[Ljava/lang/Object;" (.ref dca)) :
    MetFree l (⟨"java/util/ArrayList", "<init>", "()V"⟩ : MethodName) (head1 (Jvm.Cond.code (⟨"java/util/ArrayList", "<init>", "()V"⟩ : MethodName) jdk_38_method_2_code 1 none :: ws) ({ frames := 3, cells := 0, slots := 0, locals := 36 } : Room)) (fun a U => a = #[(.ref r0)] ∧ Z.Warmed39 U.vm ∧ U.heap = h0) (fun _ _ _ _ _ => True) (fun _ U o U' => ∃ v L, o = .returned v ∧ Q3 Z r0 dca h0 n0 v U'.heap L ∧ FrameEnd U o U' L ({ frames := 3, cells := 0, slots := 0, locals := 36 } : Room).cells ({ frames := 3, cells := 0, slots := 0, locals := 36 } : Room).slots) := by
  refine MetFree.of_bodySF (plainFor_of_name pnc_java_util_ArrayList) hisR ?_
  intro p e s m args below meth c s₁ Bd hml0 hP hK
  obtain ⟨rfl, hZ, hh⟩ := hP
  have hx := Bd.exec
  have hby := Bd.bytes
  have hml : c.maxLocals = 1 := hml0
  have hown : s.vm.findClass "java/util/ArrayList" = some m.cls := findClass_of_methodNamed Bd.named
  have hnm := (name_of_methodNamed Bd.named Bd.method).1
  have X0 : Stand p l e ({ frames := 3, cells := 0, slots := 0, locals := 36 } : Room) s m #[(.ref r0)] below meth c s₁ [] 0 0 := Stand.of_body Bd
  have e0 : s₁.heap = h0 := by rw [← hh, Bd.state]; rfl
  have N0 := Fr.nil n0
  have kp0 : Keep h0 h0 [r0] := Keep.refl _ _
  have G0 : ∀ t, Steps p.tables e below (s₁.setTop (mkF m 0 #[.val (.ref r0)] [])) t → Steps p.tables e below (s₁.setTop (entryFrame m #[(.ref r0)] 1)) t := fun t k => castTop (ef_rm3 m r0) k
  obtain ⟨_, _, ⟨T1, L1, k1, n1⟩, -, X1, ⟨Lc1, hQ1, l1, y1, z1⟩, st1⟩ := X0.specialBack hx (y := (⟨"java/util/AbstractList", "<init>", "()V"⟩ : MethodName)) rfl hown (mvT hZ (hw _ (List.mem_of_getElem? (i := 15) rfl))) (mvT hZ (hw _ (List.mem_of_getElem? (i := 16) rfl))) (mvT hZ (hw _ (List.mem_of_getElem? (i := 20) rfl))) (by decide) (backOf (W := 0) (rm4 l Z a0 hw [] r0  h0 n0 Z0 E0 Fm Fe g_r0) hZ (hw _ (List.mem_of_getElem? (i := 20) rfl)) (hw _ (List.mem_of_getElem? (i := 19) rfl)) (by decide) (by decide)) (g := (mkF m 1 #[.val (.ref r0)] [(.ref r0)])) rfl (by rw [hml]; rfl) (Steps.refl _) (a := r0) (argsL := []) (rest := []) (lenOf pd_0 rfl) rfl (by show 2 * 0 + _ ≤ _; exact Nat.le_of_eq rfl) (hb hby d3_1) (fun _ _ => ⟨rfl, e0, (by decide : 0 + 0 ≤ _), (by decide : 0 + 0 ≤ _)⟩)
  dsimp only [Pt.U, Pt.locs, Pt.cells, Pt.slots] at X1 l1 y1 z1 st1 hQ1
  subst l1 y1 z1
  obtain ⟨rfl, N1q, K1, A1, F1_0⟩ := hQ1
  have N1 := Fr.app N0 N1q
  have f2 : Exa Z T1.heap r0 "java/util/ArrayList" := E0.keep K1
  have f3 : Old Z n0 T1.heap := O0.keep K1 (allS g_r0 all0)
  have z4 : n0 ≤ T1.heap.size := Nat.le_trans Z0 K1.1
  have kp5 : Keep h0 T1.heap [r0] := kp0.trans K1 (allS (Or.inl (List.mem_of_getElem? (i := 0) rfl)) all0)
  obtain ⟨T6, X6, e6, st6⟩ := getS2 X1 hx hZ hown (host := "") (Or.inl (hw _ (List.mem_of_getElem? (i := 30) rfl))) Via.refl rfl (SD.ext f3.2) (g := (mkF m 5 #[.val (.ref r0)] [(.ref r0)])) rfl (hb hby d3_5)
  obtain ⟨T7, h7, X7, e7, W7, st7⟩ := putF X6 hx hZ hown (host := "") (Or.inl (hw _ (List.mem_of_getElem? (i := 31) rfl))) Via.refl e6 F1_0 f2 (Or.inl (hw _ (List.mem_of_getElem? (i := 32) rfl))) (hw _ (List.mem_of_getElem? (i := 10) rfl)) (ty := (.array (.object "java/lang/Object"))) (by decide) rfl rfl (g := (mkF m 8 #[.val (.ref r0)] [(.ref dca), (.ref r0)])) rfl rfl (hb hby d3_8)
  have f8 : Exa Z h7 r0 "java/util/ArrayList" := f2.wr W7
  have f9 : Old Z n0 h7 := f3.wr W7 g_r0
  have f10 : Fld Z h7 r0 "java/util/ArrayList" "elementData" "[Ljava/lang/Object;" (.ref dca) := F1_0.same W7
  have z11 : n0 ≤ h7.size := Nat.le_trans z4 (Nat.le_of_eq W7.size.symm)
  have kp12 : Keep h0 h7 [r0] := kp5.wr W7 (Or.inl (List.mem_of_getElem? (i := 0) rfl))
  have N7 := Fr.snoc X7 N1 g_r0
  obtain ⟨fs, hr, hrun, hended, hW, hsame⟩ := X7.leave (v := none) (fun _ => rfl)
  refine ⟨_, _, G0 _ ?_, hrun, hended, _, _, rfl, ?_, ⟨_, rfl⟩, hW, hsame.mono (by decide) (by decide)⟩
  · skip
    show Steps p.tables e below (s₁.setTop (mkF m 0 #[.val (.ref r0)] [])) _
    refine XS.aloadN X0.here hx rfl (hb hby d3_0) rfl rfl ?_
    show Steps p.tables e below (s₁.setTop (mkF m 1 #[.val (.ref r0)] [(.ref r0)])) _
    refine st1.trans ?_
    show Steps p.tables e below (T1.setTop (mkF m 4 #[.val (.ref r0)] [])) _
    refine XS.aloadN X1.here hx rfl (hb hby d3_4) rfl rfl ?_
    show Steps p.tables e below (T1.setTop (mkF m 5 #[.val (.ref r0)] [(.ref r0)])) _
    refine st6 _ ?_
    show Steps p.tables e below (T6.setTop (mkF m 8 #[.val (.ref r0)] [(.ref dca), (.ref r0)])) _
    refine st7 _ ?_
    show Steps p.tables e below (T7.setTop (mkF m 11 #[.val (.ref r0)] [])) _
    exact X7.returnOut hx Bd.returns (hb hby d3_11) hr
  · show Q3 Z r0 dca h0 n0 _ T7.heap _
    rw [e7]
    exact ⟨rfl, N7, kp12, f8⟩
theorem d1_0 : decode prog_48_method_1_code 0 = .ok (.aload_n 0, 1) := by decide +kernel
theorem d1_1 : decode prog_48_method_1_code 1 = .ok (.invokespecial 1, 3) := by decide +kernel
theorem d1_4 : decode prog_48_method_1_code 4 = .ok (.aload_n 0, 1) := by decide +kernel
theorem d1_5 : decode prog_48_method_1_code 5 = .ok (.new 7, 3) := by decide +kernel
theorem d1_8 : decode prog_48_method_1_code 8 = .ok (.dup, 1) := by decide +kernel
theorem d1_9 : decode prog_48_method_1_code 9 = .ok (.invokespecial 9, 3) := by decide +kernel
theorem d1_12 : decode prog_48_method_1_code 12 = .ok (.putfield 10, 3) := by decide +kernel
theorem d1_15 : decode prog_48_method_1_code 15 = .ok (.aload_n 0, 1) := by decide +kernel
theorem d1_16 : decode prog_48_method_1_code 16 = .ok (.new 7, 3) := by decide +kernel
theorem d1_19 : decode prog_48_method_1_code 19 = .ok (.dup, 1) := by decide +kernel
theorem d1_20 : decode prog_48_method_1_code 20 = .ok (.invokespecial 9, 3) := by decide +kernel
theorem d1_23 : decode prog_48_method_1_code 23 = .ok (.putfield 16, 3) := by decide +kernel
theorem d1_26 : decode prog_48_method_1_code 26 = .ok (.aload_n 0, 1) := by decide +kernel
theorem d1_27 : decode prog_48_method_1_code 27 = .ok (.aload_n 1, 1) := by decide +kernel
theorem d1_28 : decode prog_48_method_1_code 28 = .ok (.putfield 19, 3) := by decide +kernel
theorem d1_31 : decode prog_48_method_1_code 31 = .ok (.aload_n 0, 1) := by decide +kernel
theorem d1_32 : decode prog_48_method_1_code 32 = .ok (.iload_n 2, 1) := by decide +kernel
theorem d1_33 : decode prog_48_method_1_code 33 = .ok (.putfield 23, 3) := by decide +kernel
theorem d1_36 : decode prog_48_method_1_code 36 = .ok (.aload_n 0, 1) := by decide +kernel
theorem d1_37 : decode prog_48_method_1_code 37 = .ok (.aload_n 3, 1) := by decide +kernel
theorem d1_38 : decode prog_48_method_1_code 38 = .ok (.putfield 27, 3) := by decide +kernel
theorem d1_41 : decode prog_48_method_1_code 41 = .ok (.aload_n 0, 1) := by decide +kernel
theorem d1_42 : decode prog_48_method_1_code 42 = .ok (.aload 4, 2) := by decide +kernel
theorem d1_44 : decode prog_48_method_1_code 44 = .ok (.putfield 31, 3) := by decide +kernel
theorem d1_47 : decode prog_48_method_1_code 47 = .ok (.return_, 1) := by decide +kernel
def Q1 (Z : State) (r0 : Addr) (p2 : Int32) (dca : Addr) (h0 : Heap) (n0 : Nat) (v : Option Value) (h : Heap) (L : List Loc) : Prop := v = none ∧ Fr n0 L ∧ Keep h0 h [r0] ∧ Exa Z h r0 "com/example/nuthatch/nuthatch/planning/PlannedVm" ∧ Fld Z h r0 "com/example/nuthatch/nuthatch/planning/PlannedVm" "number" "I" (.int p2)
theorem ef_rm1 (m : MethodId) (x0 : Addr) (x2 : Int32) : entryFrame m #[(.ref x0), .null, (.int x2), .null, .null] 5 = mkF m 0 #[.val (.ref x0), .val .null, .val (.int x2), .val .null, .val .null] [] := by first | (simp [entryFrame, mkF, argsToLocals, Value.category]; done) | rfl
theorem pnc_com_example_nuthatch_nuthatch_planning_PlannedVm : plainName "com/example/nuthatch/nuthatch/planning/PlannedVm" = true := by first | (simp [plainName, overriddenIn]; done) | decide +kernel
set_option maxRecDepth 65536 in
set_option maxHeartbeats 40000000 in
theorem rm1 (l : Launch) (Z : State) (a0 : Array Value) (hw : ∀ d ∈ tables_1, d.before a0 Z = true) (ws : List Jvm.Cond) (r0 : Addr) (p2 : Int32) (dca : Addr) (h0 : Heap) (n0 : Nat) (Z0 : n0 ≤ h0.size) (E0 : Exa Z h0 r0 "com/example/nuthatch/nuthatch/planning/PlannedVm") (Fslots : Fld Z h0 r0 "com/example/nuthatch/nuthatch/planning/PlannedVm" "slots" "Ljava/util/List;" .null) (Fgaps : Fld Z h0 r0 "com/example/nuthatch/nuthatch/planning/PlannedVm" "gaps" "Ljava/util/List;" .null) (Fterms : Fld Z h0 r0 "com/example/nuthatch/nuthatch/planning/PlannedVm" "terms" "Lcom/example/nuthatch/nuthatch/planning/VmTerms;" .null) (Fnumber : Fld Z h0 r0 "com/example/nuthatch/nuthatch/planning/PlannedVm" "number" "I" (.int (0 : Int32))) (Ffree : Fld Z h0 r0 "com/example/nuthatch/nuthatch/planning/PlannedVm" "free" "Lcom/example/nuthatch/nuthatch/planning/FreeTime;" .null) (Fcache : Fld Z h0 r0 "com/example/nuthatch/nuthatch/planning/PlannedVm" "cache" "Lcom/example/nuthatch/nuthatch/planning/PlannedCache;" .null) (O0 : Old Z n0 h0) (g_r0 : n0 ≤ r0) (SD : Sta Z Z.heap "java/util/ArrayList" "DEFAULTCAPACITY_EMPTY_ELEMENTDATA" "[Ljava/lang/Object;" (.ref dca)) :
    MetFree l (⟨"com/example/nuthatch/nuthatch/planning/PlannedVm", "<init>", "(Lcom/example/nuthatch/nuthatch/planning/VmTerms;ILcom/example/nuthatch/nuthatch/planning/FreeTime;Lcom/example/nuthatch/nuthatch/planning/PlannedCache;)V"⟩ : MethodName) (head1 (Jvm.Cond.code (⟨"com/example/nuthatch/nuthatch/planning/PlannedVm", "<init>", "(Lcom/example/nuthatch/nuthatch/planning/VmTerms;ILcom/example/nuthatch/nuthatch/planning/FreeTime;Lcom/example/nuthatch/nuthatch/planning/PlannedCache;)V"⟩ : MethodName) prog_48_method_1_code 5 none :: ws) ({ frames := 4, cells := 2, slots := 6, locals := 50 } : Room)) (fun a U => a = #[(.ref r0), .null, (.int p2), .null, .null] ∧ Z.Warmed39 U.vm ∧ U.heap = h0) (fun _ _ _ _ _ => True) (fun _ U o U' => ∃ v L, o = .returned v ∧ Q1 Z r0 p2 dca h0 n0 v U'.heap L ∧ FrameEnd U o U' L ({ frames := 4, cells := 2, slots := 6, locals := 50 } : Room).cells ({ frames := 4, cells := 2, slots := 6, locals := 50 } : Room).slots) := by
  refine MetFree.of_bodySF (plainFor_of_name pnc_com_example_nuthatch_nuthatch_planning_PlannedVm) hisR ?_
  intro p e s m args below meth c s₁ Bd hml0 hP hK
  obtain ⟨rfl, hZ, hh⟩ := hP
  have hx := Bd.exec
  have hby := Bd.bytes
  have hml : c.maxLocals = 5 := hml0
  have hown : s.vm.findClass "com/example/nuthatch/nuthatch/planning/PlannedVm" = some m.cls := findClass_of_methodNamed Bd.named
  have hnm := (name_of_methodNamed Bd.named Bd.method).1
  have X0 : Stand p l e ({ frames := 4, cells := 2, slots := 6, locals := 50 } : Room) s m #[(.ref r0), .null, (.int p2), .null, .null] below meth c s₁ [] 0 0 := Stand.of_body Bd
  have e0 : s₁.heap = h0 := by rw [← hh, Bd.state]; rfl
  have N0 := Fr.nil n0
  have kp0 : Keep h0 h0 [r0] := Keep.refl _ _
  have G0 : ∀ t, Steps p.tables e below (s₁.setTop (mkF m 0 #[.val (.ref r0), .val .null, .val (.int p2), .val .null, .val .null] [])) t → Steps p.tables e below (s₁.setTop (entryFrame m #[(.ref r0), .null, (.int p2), .null, .null] 5)) t := fun t k => castTop (ef_rm1 m r0 p2) k
  obtain ⟨T1, X1, e1, st1⟩ := initO X0 hx hZ hown (hw _ (List.mem_of_getElem? (i := 6) rfl)) (hw _ (List.mem_of_getElem? (i := 7) rfl)) (hw _ (List.mem_of_getElem? (i := 8) rfl)) e0 (g := (mkF m 1 #[.val (.ref r0), .val .null, .val (.int p2), .val .null, .val .null] [(.ref r0)])) rfl (by rw [hml]; rfl) rfl (hb hby d1_1) (by decide) (W := 0) (by show 2 * 0 + _ ≤ _; exact Nat.le_of_eq rfl) (by decide)
  obtain ⟨T2, h2, X2, e2, E2, A2, D2, -, st2⟩ := newO X1 hx hZ hown (hw _ (List.mem_of_getElem? (i := 9) rfl)) (hw _ (List.mem_of_getElem? (i := 10) rfl)) (hw _ (List.mem_of_getElem? (i := 11) rfl)) e1 (g := (mkF m 5 #[.val (.ref r0), .val .null, .val (.int p2), .val .null, .val .null] [(.ref r0)])) rfl (hb hby d1_5) (by decide) (by decide)
  obtain ⟨b2, g2⟩ : ∃ z, z = h0.size := ⟨_, rfl⟩
  rw [← g2] at A2 D2 st2
  have g_b2 : n0 ≤ b2 := Nat.le_trans Z0 (Nat.le_of_eq g2.symm)
  have sz_b2 : h0.size ≤ b2 := Nat.le_trans kp0.1 (Nat.le_of_eq g2.symm)
  have ne_r0_b2 : r0 ≠ b2 := Nat.ne_of_lt (Nat.lt_of_lt_of_le E0.lt (Nat.le_of_eq g2.symm))
  have f3 : Exa Z h2 r0 "com/example/nuthatch/nuthatch/planning/PlannedVm" := E0.ext E2
  have f4 : Fld Z h2 r0 "com/example/nuthatch/nuthatch/planning/PlannedVm" "slots" "Ljava/util/List;" .null := Fslots.ext E2
  have f5 : Fld Z h2 r0 "com/example/nuthatch/nuthatch/planning/PlannedVm" "gaps" "Ljava/util/List;" .null := Fgaps.ext E2
  have f6 : Fld Z h2 r0 "com/example/nuthatch/nuthatch/planning/PlannedVm" "terms" "Lcom/example/nuthatch/nuthatch/planning/VmTerms;" .null := Fterms.ext E2
  have f7 : Fld Z h2 r0 "com/example/nuthatch/nuthatch/planning/PlannedVm" "number" "I" (.int (0 : Int32)) := Fnumber.ext E2
  have f8 : Fld Z h2 r0 "com/example/nuthatch/nuthatch/planning/PlannedVm" "free" "Lcom/example/nuthatch/nuthatch/planning/FreeTime;" .null := Ffree.ext E2
  have f9 : Fld Z h2 r0 "com/example/nuthatch/nuthatch/planning/PlannedVm" "cache" "Lcom/example/nuthatch/nuthatch/planning/PlannedCache;" .null := Fcache.ext E2
  have f10 : Old Z n0 h2 := O0.ext E2
  have z11 : n0 ≤ h2.size := Nat.le_trans Z0 E2.1
  have kp12 : Keep h0 h2 [r0] := kp0.ext E2
  have f13 : Fld Z h2 b2 "java/util/AbstractList" "modCount" "I" (.int (0 : Int32)) := D2 (Or.inl (hw _ (List.mem_of_getElem? (i := 29) rfl))) (ty := .int) (by decide)
  have f14 : Fld Z h2 b2 "java/util/ArrayList" "elementData" "[Ljava/lang/Object;" .null := D2 (Or.inl (hw _ (List.mem_of_getElem? (i := 32) rfl))) (ty := (.array (.object "java/lang/Object"))) (by decide)
  obtain ⟨_, _, ⟨T15, L15, k15, n15⟩, -, X15, ⟨Lc15, hQ15, l15, y15, z15⟩, st15⟩ := X2.specialBack hx (y := (⟨"java/util/ArrayList", "<init>", "()V"⟩ : MethodName)) rfl hown (mvT hZ (hw _ (List.mem_of_getElem? (i := 12) rfl))) (mvT hZ (hw _ (List.mem_of_getElem? (i := 13) rfl))) (mvT hZ (hw _ (List.mem_of_getElem? (i := 14) rfl))) (by decide) (backOf (W := 2) (rm3 l Z a0 hw [] b2 dca h2 n0 z11 A2 f13 f14 f10 g_b2 SD) hZ (hw _ (List.mem_of_getElem? (i := 14) rfl)) (hw _ (List.mem_of_getElem? (i := 11) rfl)) (by decide) (by decide)) (g := (mkF m 9 #[.val (.ref r0), .val .null, .val (.int p2), .val .null, .val .null] [(.ref b2), (.ref b2), (.ref r0)])) rfl (by rw [hml]; rfl) (Steps.refl _) (a := b2) (argsL := []) (rest := [(.ref b2), (.ref r0)]) (lenOf pd_0 rfl) rfl (by show 2 * 0 + _ ≤ _; exact Nat.le_of_eq rfl) (hb hby d1_9) (fun _ _ => ⟨rfl, e2, (by decide : 1 + 0 ≤ _), (by decide : 3 + 0 ≤ _)⟩)
  dsimp only [Pt.U, Pt.locs, Pt.cells, Pt.slots] at X15 l15 y15 z15 st15 hQ15
  subst l15 y15 z15
  obtain ⟨rfl, N15q, K15, A15⟩ := hQ15
  have N15 := Fr.app N0 N15q
  have f16 : Exa Z T15.heap r0 "com/example/nuthatch/nuthatch/planning/PlannedVm" := f3.keep K15
  have f17 : Fld Z T15.heap r0 "com/example/nuthatch/nuthatch/planning/PlannedVm" "slots" "Ljava/util/List;" .null := f4.keep K15 (ninS ne_r0_b2 nin0)
  have f18 : Fld Z T15.heap r0 "com/example/nuthatch/nuthatch/planning/PlannedVm" "gaps" "Ljava/util/List;" .null := f5.keep K15 (ninS ne_r0_b2 nin0)
  have f19 : Fld Z T15.heap r0 "com/example/nuthatch/nuthatch/planning/PlannedVm" "terms" "Lcom/example/nuthatch/nuthatch/planning/VmTerms;" .null := f6.keep K15 (ninS ne_r0_b2 nin0)
  have f20 : Fld Z T15.heap r0 "com/example/nuthatch/nuthatch/planning/PlannedVm" "number" "I" (.int (0 : Int32)) := f7.keep K15 (ninS ne_r0_b2 nin0)
  have f21 : Fld Z T15.heap r0 "com/example/nuthatch/nuthatch/planning/PlannedVm" "free" "Lcom/example/nuthatch/nuthatch/planning/FreeTime;" .null := f8.keep K15 (ninS ne_r0_b2 nin0)
  have f22 : Fld Z T15.heap r0 "com/example/nuthatch/nuthatch/planning/PlannedVm" "cache" "Lcom/example/nuthatch/nuthatch/planning/PlannedCache;" .null := f9.keep K15 (ninS ne_r0_b2 nin0)
  have f23 : Old Z n0 T15.heap := f10.keep K15 (allS g_b2 all0)
  have f24 : Exa Z T15.heap b2 "java/util/ArrayList" := A2.keep K15
  have z25 : n0 ≤ T15.heap.size := Nat.le_trans z11 K15.1
  have kp26 : Keep h0 T15.heap [r0] := kp12.trans K15 (allS (Or.inr sz_b2) all0)
  obtain ⟨T27, h27, X27, e27, W27, st27⟩ := putF X15 hx hZ hown (host := "") (Or.inl (hw _ (List.mem_of_getElem? (i := 33) rfl))) Via.refl rfl f17 f16 (Or.inr ⟨(hw _ (List.mem_of_getElem? (i := 34) rfl)), rfl, hnm⟩) (hw _ (List.mem_of_getElem? (i := 1) rfl)) (ty := (.object "java/util/List")) (by decide) rfl rfl (g := (mkF m 12 #[.val (.ref r0), .val .null, .val (.int p2), .val .null, .val .null] [(.ref b2), (.ref r0)])) rfl rfl (hb hby d1_12)
  have f28 : Exa Z h27 r0 "com/example/nuthatch/nuthatch/planning/PlannedVm" := f16.wr W27
  have f29 : Fld Z h27 r0 "com/example/nuthatch/nuthatch/planning/PlannedVm" "slots" "Ljava/util/List;" (.ref b2) := f17.same W27
  have f30 : Fld Z h27 r0 "com/example/nuthatch/nuthatch/planning/PlannedVm" "gaps" "Ljava/util/List;" .null := f18.other W27 (Or.inr (slot_ne (Or.inr (hw _ (List.mem_of_getElem? (i := 36) rfl))) (Or.inr (hw _ (List.mem_of_getElem? (i := 34) rfl))) (by decide) (t := (.object "java/util/List")) (t' := (.object "java/util/List")) (by decide) (by decide)))
  have f31 : Fld Z h27 r0 "com/example/nuthatch/nuthatch/planning/PlannedVm" "terms" "Lcom/example/nuthatch/nuthatch/planning/VmTerms;" .null := f19.other W27 (Or.inr (slot_ne (Or.inr (hw _ (List.mem_of_getElem? (i := 38) rfl))) (Or.inr (hw _ (List.mem_of_getElem? (i := 34) rfl))) (by decide) (t := (.object "com/example/nuthatch/nuthatch/planning/VmTerms")) (t' := (.object "java/util/List")) (by decide) (by decide)))
  have f32 : Fld Z h27 r0 "com/example/nuthatch/nuthatch/planning/PlannedVm" "number" "I" (.int (0 : Int32)) := f20.other W27 (Or.inr (slot_ne (Or.inr (hw _ (List.mem_of_getElem? (i := 40) rfl))) (Or.inr (hw _ (List.mem_of_getElem? (i := 34) rfl))) (by decide) (t := .int) (t' := (.object "java/util/List")) (by decide) (by decide)))
  have f33 : Fld Z h27 r0 "com/example/nuthatch/nuthatch/planning/PlannedVm" "free" "Lcom/example/nuthatch/nuthatch/planning/FreeTime;" .null := f21.other W27 (Or.inr (slot_ne (Or.inr (hw _ (List.mem_of_getElem? (i := 42) rfl))) (Or.inr (hw _ (List.mem_of_getElem? (i := 34) rfl))) (by decide) (t := (.object "com/example/nuthatch/nuthatch/planning/FreeTime")) (t' := (.object "java/util/List")) (by decide) (by decide)))
  have f34 : Fld Z h27 r0 "com/example/nuthatch/nuthatch/planning/PlannedVm" "cache" "Lcom/example/nuthatch/nuthatch/planning/PlannedCache;" .null := f22.other W27 (Or.inr (slot_ne (Or.inr (hw _ (List.mem_of_getElem? (i := 44) rfl))) (Or.inr (hw _ (List.mem_of_getElem? (i := 34) rfl))) (by decide) (t := (.object "com/example/nuthatch/nuthatch/planning/PlannedCache")) (t' := (.object "java/util/List")) (by decide) (by decide)))
  have f35 : Old Z n0 h27 := f23.wr W27 g_r0
  have f36 : Exa Z h27 b2 "java/util/ArrayList" := f24.wr W27
  have z37 : n0 ≤ h27.size := Nat.le_trans z25 (Nat.le_of_eq W27.size.symm)
  have kp38 : Keep h0 h27 [r0] := kp26.wr W27 (Or.inl (List.mem_of_getElem? (i := 0) rfl))
  have N27 := Fr.snoc X27 N15 g_r0
  obtain ⟨T39, h39, X39, e39, E39, A39, D39, -, st39⟩ := newO X27 hx hZ hown (hw _ (List.mem_of_getElem? (i := 9) rfl)) (hw _ (List.mem_of_getElem? (i := 10) rfl)) (hw _ (List.mem_of_getElem? (i := 11) rfl)) e27 (g := (mkF m 16 #[.val (.ref r0), .val .null, .val (.int p2), .val .null, .val .null] [(.ref r0)])) rfl (hb hby d1_16) (by decide) (by decide)
  obtain ⟨b39, g39⟩ : ∃ z, z = h27.size := ⟨_, rfl⟩
  rw [← g39] at A39 D39 st39
  have g_b39 : n0 ≤ b39 := Nat.le_trans z37 (Nat.le_of_eq g39.symm)
  have sz_b39 : h0.size ≤ b39 := Nat.le_trans kp38.1 (Nat.le_of_eq g39.symm)
  have ne_r0_b39 : r0 ≠ b39 := Nat.ne_of_lt (Nat.lt_of_lt_of_le f28.lt (Nat.le_of_eq g39.symm))
  have ne_b2_b39 : b2 ≠ b39 := Nat.ne_of_lt (Nat.lt_of_lt_of_le f36.lt (Nat.le_of_eq g39.symm))
  have f40 : Exa Z h39 r0 "com/example/nuthatch/nuthatch/planning/PlannedVm" := f28.ext E39
  have f41 : Fld Z h39 r0 "com/example/nuthatch/nuthatch/planning/PlannedVm" "slots" "Ljava/util/List;" (.ref b2) := f29.ext E39
  have f42 : Fld Z h39 r0 "com/example/nuthatch/nuthatch/planning/PlannedVm" "gaps" "Ljava/util/List;" .null := f30.ext E39
  have f43 : Fld Z h39 r0 "com/example/nuthatch/nuthatch/planning/PlannedVm" "terms" "Lcom/example/nuthatch/nuthatch/planning/VmTerms;" .null := f31.ext E39
  have f44 : Fld Z h39 r0 "com/example/nuthatch/nuthatch/planning/PlannedVm" "number" "I" (.int (0 : Int32)) := f32.ext E39
  have f45 : Fld Z h39 r0 "com/example/nuthatch/nuthatch/planning/PlannedVm" "free" "Lcom/example/nuthatch/nuthatch/planning/FreeTime;" .null := f33.ext E39
  have f46 : Fld Z h39 r0 "com/example/nuthatch/nuthatch/planning/PlannedVm" "cache" "Lcom/example/nuthatch/nuthatch/planning/PlannedCache;" .null := f34.ext E39
  have f47 : Old Z n0 h39 := f35.ext E39
  have f48 : Exa Z h39 b2 "java/util/ArrayList" := f36.ext E39
  have z49 : n0 ≤ h39.size := Nat.le_trans z37 E39.1
  have kp50 : Keep h0 h39 [r0] := kp38.ext E39
  have f51 : Fld Z h39 b39 "java/util/AbstractList" "modCount" "I" (.int (0 : Int32)) := D39 (Or.inl (hw _ (List.mem_of_getElem? (i := 29) rfl))) (ty := .int) (by decide)
  have f52 : Fld Z h39 b39 "java/util/ArrayList" "elementData" "[Ljava/lang/Object;" .null := D39 (Or.inl (hw _ (List.mem_of_getElem? (i := 32) rfl))) (ty := (.array (.object "java/lang/Object"))) (by decide)
  obtain ⟨_, _, ⟨T53, L53, k53, n53⟩, -, X53, ⟨Lc53, hQ53, l53, y53, z53⟩, st53⟩ := X39.specialBack hx (y := (⟨"java/util/ArrayList", "<init>", "()V"⟩ : MethodName)) rfl hown (mvT hZ (hw _ (List.mem_of_getElem? (i := 12) rfl))) (mvT hZ (hw _ (List.mem_of_getElem? (i := 13) rfl))) (mvT hZ (hw _ (List.mem_of_getElem? (i := 14) rfl))) (by decide) (backOf (W := 2) (rm3 l Z a0 hw [] b39 dca h39 n0 z49 A39 f51 f52 f47 g_b39 SD) hZ (hw _ (List.mem_of_getElem? (i := 14) rfl)) (hw _ (List.mem_of_getElem? (i := 11) rfl)) (by decide) (by decide)) (g := (mkF m 20 #[.val (.ref r0), .val .null, .val (.int p2), .val .null, .val .null] [(.ref b39), (.ref b39), (.ref r0)])) rfl (by rw [hml]; rfl) (Steps.refl _) (a := b39) (argsL := []) (rest := [(.ref b39), (.ref r0)]) (lenOf pd_0 rfl) rfl (by show 2 * 0 + _ ≤ _; exact Nat.le_of_eq rfl) (hb hby d1_20) (fun _ _ => ⟨rfl, e39, (by decide : 2 + 0 ≤ _), (by decide : 6 + 0 ≤ _)⟩)
  dsimp only [Pt.U, Pt.locs, Pt.cells, Pt.slots] at X53 l53 y53 z53 st53 hQ53
  subst l53 y53 z53
  obtain ⟨rfl, N53q, K53, A53⟩ := hQ53
  have N53 := Fr.app N27 N53q
  have f54 : Exa Z T53.heap r0 "com/example/nuthatch/nuthatch/planning/PlannedVm" := f40.keep K53
  have f55 : Fld Z T53.heap r0 "com/example/nuthatch/nuthatch/planning/PlannedVm" "slots" "Ljava/util/List;" (.ref b2) := f41.keep K53 (ninS ne_r0_b39 nin0)
  have f56 : Fld Z T53.heap r0 "com/example/nuthatch/nuthatch/planning/PlannedVm" "gaps" "Ljava/util/List;" .null := f42.keep K53 (ninS ne_r0_b39 nin0)
  have f57 : Fld Z T53.heap r0 "com/example/nuthatch/nuthatch/planning/PlannedVm" "terms" "Lcom/example/nuthatch/nuthatch/planning/VmTerms;" .null := f43.keep K53 (ninS ne_r0_b39 nin0)
  have f58 : Fld Z T53.heap r0 "com/example/nuthatch/nuthatch/planning/PlannedVm" "number" "I" (.int (0 : Int32)) := f44.keep K53 (ninS ne_r0_b39 nin0)
  have f59 : Fld Z T53.heap r0 "com/example/nuthatch/nuthatch/planning/PlannedVm" "free" "Lcom/example/nuthatch/nuthatch/planning/FreeTime;" .null := f45.keep K53 (ninS ne_r0_b39 nin0)
  have f60 : Fld Z T53.heap r0 "com/example/nuthatch/nuthatch/planning/PlannedVm" "cache" "Lcom/example/nuthatch/nuthatch/planning/PlannedCache;" .null := f46.keep K53 (ninS ne_r0_b39 nin0)
  have f61 : Old Z n0 T53.heap := f47.keep K53 (allS g_b39 all0)
  have f62 : Exa Z T53.heap b2 "java/util/ArrayList" := f48.keep K53
  have f63 : Exa Z T53.heap b39 "java/util/ArrayList" := A39.keep K53
  have z64 : n0 ≤ T53.heap.size := Nat.le_trans z49 K53.1
  have kp65 : Keep h0 T53.heap [r0] := kp50.trans K53 (allS (Or.inr sz_b39) all0)
  obtain ⟨T66, h66, X66, e66, W66, st66⟩ := putF X53 hx hZ hown (host := "") (Or.inl (hw _ (List.mem_of_getElem? (i := 35) rfl))) Via.refl rfl f56 f54 (Or.inr ⟨(hw _ (List.mem_of_getElem? (i := 36) rfl)), rfl, hnm⟩) (hw _ (List.mem_of_getElem? (i := 1) rfl)) (ty := (.object "java/util/List")) (by decide) rfl rfl (g := (mkF m 23 #[.val (.ref r0), .val .null, .val (.int p2), .val .null, .val .null] [(.ref b39), (.ref r0)])) rfl rfl (hb hby d1_23)
  have f67 : Exa Z h66 r0 "com/example/nuthatch/nuthatch/planning/PlannedVm" := f54.wr W66
  have f68 : Fld Z h66 r0 "com/example/nuthatch/nuthatch/planning/PlannedVm" "slots" "Ljava/util/List;" (.ref b2) := f55.other W66 (Or.inr (slot_ne (Or.inr (hw _ (List.mem_of_getElem? (i := 34) rfl))) (Or.inr (hw _ (List.mem_of_getElem? (i := 36) rfl))) (by decide) (t := (.object "java/util/List")) (t' := (.object "java/util/List")) (by decide) (by decide)))
  have f69 : Fld Z h66 r0 "com/example/nuthatch/nuthatch/planning/PlannedVm" "gaps" "Ljava/util/List;" (.ref b39) := f56.same W66
  have f70 : Fld Z h66 r0 "com/example/nuthatch/nuthatch/planning/PlannedVm" "terms" "Lcom/example/nuthatch/nuthatch/planning/VmTerms;" .null := f57.other W66 (Or.inr (slot_ne (Or.inr (hw _ (List.mem_of_getElem? (i := 38) rfl))) (Or.inr (hw _ (List.mem_of_getElem? (i := 36) rfl))) (by decide) (t := (.object "com/example/nuthatch/nuthatch/planning/VmTerms")) (t' := (.object "java/util/List")) (by decide) (by decide)))
  have f71 : Fld Z h66 r0 "com/example/nuthatch/nuthatch/planning/PlannedVm" "number" "I" (.int (0 : Int32)) := f58.other W66 (Or.inr (slot_ne (Or.inr (hw _ (List.mem_of_getElem? (i := 40) rfl))) (Or.inr (hw _ (List.mem_of_getElem? (i := 36) rfl))) (by decide) (t := .int) (t' := (.object "java/util/List")) (by decide) (by decide)))
  have f72 : Fld Z h66 r0 "com/example/nuthatch/nuthatch/planning/PlannedVm" "free" "Lcom/example/nuthatch/nuthatch/planning/FreeTime;" .null := f59.other W66 (Or.inr (slot_ne (Or.inr (hw _ (List.mem_of_getElem? (i := 42) rfl))) (Or.inr (hw _ (List.mem_of_getElem? (i := 36) rfl))) (by decide) (t := (.object "com/example/nuthatch/nuthatch/planning/FreeTime")) (t' := (.object "java/util/List")) (by decide) (by decide)))
  have f73 : Fld Z h66 r0 "com/example/nuthatch/nuthatch/planning/PlannedVm" "cache" "Lcom/example/nuthatch/nuthatch/planning/PlannedCache;" .null := f60.other W66 (Or.inr (slot_ne (Or.inr (hw _ (List.mem_of_getElem? (i := 44) rfl))) (Or.inr (hw _ (List.mem_of_getElem? (i := 36) rfl))) (by decide) (t := (.object "com/example/nuthatch/nuthatch/planning/PlannedCache")) (t' := (.object "java/util/List")) (by decide) (by decide)))
  have f74 : Old Z n0 h66 := f61.wr W66 g_r0
  have f75 : Exa Z h66 b2 "java/util/ArrayList" := f62.wr W66
  have f76 : Exa Z h66 b39 "java/util/ArrayList" := f63.wr W66
  have z77 : n0 ≤ h66.size := Nat.le_trans z64 (Nat.le_of_eq W66.size.symm)
  have kp78 : Keep h0 h66 [r0] := kp65.wr W66 (Or.inl (List.mem_of_getElem? (i := 0) rfl))
  have N66 := Fr.snoc X66 N53 g_r0
  obtain ⟨T79, h79, X79, e79, W79, st79⟩ := putF X66 hx hZ hown (host := "") (Or.inl (hw _ (List.mem_of_getElem? (i := 37) rfl))) Via.refl e66 f70 f67 (Or.inr ⟨(hw _ (List.mem_of_getElem? (i := 38) rfl)), rfl, hnm⟩) (hw _ (List.mem_of_getElem? (i := 1) rfl)) (ty := (.object "com/example/nuthatch/nuthatch/planning/VmTerms")) (by decide) rfl rfl (g := (mkF m 28 #[.val (.ref r0), .val .null, .val (.int p2), .val .null, .val .null] [.null, (.ref r0)])) rfl rfl (hb hby d1_28)
  have f80 : Exa Z h79 r0 "com/example/nuthatch/nuthatch/planning/PlannedVm" := f67.wr W79
  have f81 : Fld Z h79 r0 "com/example/nuthatch/nuthatch/planning/PlannedVm" "slots" "Ljava/util/List;" (.ref b2) := f68.other W79 (Or.inr (slot_ne (Or.inr (hw _ (List.mem_of_getElem? (i := 34) rfl))) (Or.inr (hw _ (List.mem_of_getElem? (i := 38) rfl))) (by decide) (t := (.object "java/util/List")) (t' := (.object "com/example/nuthatch/nuthatch/planning/VmTerms")) (by decide) (by decide)))
  have f82 : Fld Z h79 r0 "com/example/nuthatch/nuthatch/planning/PlannedVm" "gaps" "Ljava/util/List;" (.ref b39) := f69.other W79 (Or.inr (slot_ne (Or.inr (hw _ (List.mem_of_getElem? (i := 36) rfl))) (Or.inr (hw _ (List.mem_of_getElem? (i := 38) rfl))) (by decide) (t := (.object "java/util/List")) (t' := (.object "com/example/nuthatch/nuthatch/planning/VmTerms")) (by decide) (by decide)))
  have f83 : Fld Z h79 r0 "com/example/nuthatch/nuthatch/planning/PlannedVm" "terms" "Lcom/example/nuthatch/nuthatch/planning/VmTerms;" .null := f70.same W79
  have f84 : Fld Z h79 r0 "com/example/nuthatch/nuthatch/planning/PlannedVm" "number" "I" (.int (0 : Int32)) := f71.other W79 (Or.inr (slot_ne (Or.inr (hw _ (List.mem_of_getElem? (i := 40) rfl))) (Or.inr (hw _ (List.mem_of_getElem? (i := 38) rfl))) (by decide) (t := .int) (t' := (.object "com/example/nuthatch/nuthatch/planning/VmTerms")) (by decide) (by decide)))
  have f85 : Fld Z h79 r0 "com/example/nuthatch/nuthatch/planning/PlannedVm" "free" "Lcom/example/nuthatch/nuthatch/planning/FreeTime;" .null := f72.other W79 (Or.inr (slot_ne (Or.inr (hw _ (List.mem_of_getElem? (i := 42) rfl))) (Or.inr (hw _ (List.mem_of_getElem? (i := 38) rfl))) (by decide) (t := (.object "com/example/nuthatch/nuthatch/planning/FreeTime")) (t' := (.object "com/example/nuthatch/nuthatch/planning/VmTerms")) (by decide) (by decide)))
  have f86 : Fld Z h79 r0 "com/example/nuthatch/nuthatch/planning/PlannedVm" "cache" "Lcom/example/nuthatch/nuthatch/planning/PlannedCache;" .null := f73.other W79 (Or.inr (slot_ne (Or.inr (hw _ (List.mem_of_getElem? (i := 44) rfl))) (Or.inr (hw _ (List.mem_of_getElem? (i := 38) rfl))) (by decide) (t := (.object "com/example/nuthatch/nuthatch/planning/PlannedCache")) (t' := (.object "com/example/nuthatch/nuthatch/planning/VmTerms")) (by decide) (by decide)))
  have f87 : Old Z n0 h79 := f74.wr W79 g_r0
  have f88 : Exa Z h79 b2 "java/util/ArrayList" := f75.wr W79
  have f89 : Exa Z h79 b39 "java/util/ArrayList" := f76.wr W79
  have z90 : n0 ≤ h79.size := Nat.le_trans z77 (Nat.le_of_eq W79.size.symm)
  have kp91 : Keep h0 h79 [r0] := kp78.wr W79 (Or.inl (List.mem_of_getElem? (i := 0) rfl))
  have N79 := Fr.snoc X79 N66 g_r0
  obtain ⟨T92, h92, X92, e92, W92, st92⟩ := putF X79 hx hZ hown (host := "") (Or.inl (hw _ (List.mem_of_getElem? (i := 39) rfl))) Via.refl e79 f84 f80 (Or.inr ⟨(hw _ (List.mem_of_getElem? (i := 40) rfl)), rfl, hnm⟩) (hw _ (List.mem_of_getElem? (i := 1) rfl)) (ty := .int) (by decide) rfl rfl (g := (mkF m 33 #[.val (.ref r0), .val .null, .val (.int p2), .val .null, .val .null] [(.int p2), (.ref r0)])) rfl rfl (hb hby d1_33)
  have f93 : Exa Z h92 r0 "com/example/nuthatch/nuthatch/planning/PlannedVm" := f80.wr W92
  have f94 : Fld Z h92 r0 "com/example/nuthatch/nuthatch/planning/PlannedVm" "slots" "Ljava/util/List;" (.ref b2) := f81.other W92 (Or.inr (slot_ne (Or.inr (hw _ (List.mem_of_getElem? (i := 34) rfl))) (Or.inr (hw _ (List.mem_of_getElem? (i := 40) rfl))) (by decide) (t := (.object "java/util/List")) (t' := .int) (by decide) (by decide)))
  have f95 : Fld Z h92 r0 "com/example/nuthatch/nuthatch/planning/PlannedVm" "gaps" "Ljava/util/List;" (.ref b39) := f82.other W92 (Or.inr (slot_ne (Or.inr (hw _ (List.mem_of_getElem? (i := 36) rfl))) (Or.inr (hw _ (List.mem_of_getElem? (i := 40) rfl))) (by decide) (t := (.object "java/util/List")) (t' := .int) (by decide) (by decide)))
  have f96 : Fld Z h92 r0 "com/example/nuthatch/nuthatch/planning/PlannedVm" "terms" "Lcom/example/nuthatch/nuthatch/planning/VmTerms;" .null := f83.other W92 (Or.inr (slot_ne (Or.inr (hw _ (List.mem_of_getElem? (i := 38) rfl))) (Or.inr (hw _ (List.mem_of_getElem? (i := 40) rfl))) (by decide) (t := (.object "com/example/nuthatch/nuthatch/planning/VmTerms")) (t' := .int) (by decide) (by decide)))
  have f97 : Fld Z h92 r0 "com/example/nuthatch/nuthatch/planning/PlannedVm" "number" "I" (.int p2) := f84.same W92
  have f98 : Fld Z h92 r0 "com/example/nuthatch/nuthatch/planning/PlannedVm" "free" "Lcom/example/nuthatch/nuthatch/planning/FreeTime;" .null := f85.other W92 (Or.inr (slot_ne (Or.inr (hw _ (List.mem_of_getElem? (i := 42) rfl))) (Or.inr (hw _ (List.mem_of_getElem? (i := 40) rfl))) (by decide) (t := (.object "com/example/nuthatch/nuthatch/planning/FreeTime")) (t' := .int) (by decide) (by decide)))
  have f99 : Fld Z h92 r0 "com/example/nuthatch/nuthatch/planning/PlannedVm" "cache" "Lcom/example/nuthatch/nuthatch/planning/PlannedCache;" .null := f86.other W92 (Or.inr (slot_ne (Or.inr (hw _ (List.mem_of_getElem? (i := 44) rfl))) (Or.inr (hw _ (List.mem_of_getElem? (i := 40) rfl))) (by decide) (t := (.object "com/example/nuthatch/nuthatch/planning/PlannedCache")) (t' := .int) (by decide) (by decide)))
  have f100 : Old Z n0 h92 := f87.wr W92 g_r0
  have f101 : Exa Z h92 b2 "java/util/ArrayList" := f88.wr W92
  have f102 : Exa Z h92 b39 "java/util/ArrayList" := f89.wr W92
  have z103 : n0 ≤ h92.size := Nat.le_trans z90 (Nat.le_of_eq W92.size.symm)
  have kp104 : Keep h0 h92 [r0] := kp91.wr W92 (Or.inl (List.mem_of_getElem? (i := 0) rfl))
  have N92 := Fr.snoc X92 N79 g_r0
  obtain ⟨T105, h105, X105, e105, W105, st105⟩ := putF X92 hx hZ hown (host := "") (Or.inl (hw _ (List.mem_of_getElem? (i := 41) rfl))) Via.refl e92 f98 f93 (Or.inr ⟨(hw _ (List.mem_of_getElem? (i := 42) rfl)), rfl, hnm⟩) (hw _ (List.mem_of_getElem? (i := 1) rfl)) (ty := (.object "com/example/nuthatch/nuthatch/planning/FreeTime")) (by decide) rfl rfl (g := (mkF m 38 #[.val (.ref r0), .val .null, .val (.int p2), .val .null, .val .null] [.null, (.ref r0)])) rfl rfl (hb hby d1_38)
  have f106 : Exa Z h105 r0 "com/example/nuthatch/nuthatch/planning/PlannedVm" := f93.wr W105
  have f107 : Fld Z h105 r0 "com/example/nuthatch/nuthatch/planning/PlannedVm" "slots" "Ljava/util/List;" (.ref b2) := f94.other W105 (Or.inr (slot_ne (Or.inr (hw _ (List.mem_of_getElem? (i := 34) rfl))) (Or.inr (hw _ (List.mem_of_getElem? (i := 42) rfl))) (by decide) (t := (.object "java/util/List")) (t' := (.object "com/example/nuthatch/nuthatch/planning/FreeTime")) (by decide) (by decide)))
  have f108 : Fld Z h105 r0 "com/example/nuthatch/nuthatch/planning/PlannedVm" "gaps" "Ljava/util/List;" (.ref b39) := f95.other W105 (Or.inr (slot_ne (Or.inr (hw _ (List.mem_of_getElem? (i := 36) rfl))) (Or.inr (hw _ (List.mem_of_getElem? (i := 42) rfl))) (by decide) (t := (.object "java/util/List")) (t' := (.object "com/example/nuthatch/nuthatch/planning/FreeTime")) (by decide) (by decide)))
  have f109 : Fld Z h105 r0 "com/example/nuthatch/nuthatch/planning/PlannedVm" "terms" "Lcom/example/nuthatch/nuthatch/planning/VmTerms;" .null := f96.other W105 (Or.inr (slot_ne (Or.inr (hw _ (List.mem_of_getElem? (i := 38) rfl))) (Or.inr (hw _ (List.mem_of_getElem? (i := 42) rfl))) (by decide) (t := (.object "com/example/nuthatch/nuthatch/planning/VmTerms")) (t' := (.object "com/example/nuthatch/nuthatch/planning/FreeTime")) (by decide) (by decide)))
  have f110 : Fld Z h105 r0 "com/example/nuthatch/nuthatch/planning/PlannedVm" "number" "I" (.int p2) := f97.other W105 (Or.inr (slot_ne (Or.inr (hw _ (List.mem_of_getElem? (i := 40) rfl))) (Or.inr (hw _ (List.mem_of_getElem? (i := 42) rfl))) (by decide) (t := .int) (t' := (.object "com/example/nuthatch/nuthatch/planning/FreeTime")) (by decide) (by decide)))
  have f111 : Fld Z h105 r0 "com/example/nuthatch/nuthatch/planning/PlannedVm" "free" "Lcom/example/nuthatch/nuthatch/planning/FreeTime;" .null := f98.same W105
  have f112 : Fld Z h105 r0 "com/example/nuthatch/nuthatch/planning/PlannedVm" "cache" "Lcom/example/nuthatch/nuthatch/planning/PlannedCache;" .null := f99.other W105 (Or.inr (slot_ne (Or.inr (hw _ (List.mem_of_getElem? (i := 44) rfl))) (Or.inr (hw _ (List.mem_of_getElem? (i := 42) rfl))) (by decide) (t := (.object "com/example/nuthatch/nuthatch/planning/PlannedCache")) (t' := (.object "com/example/nuthatch/nuthatch/planning/FreeTime")) (by decide) (by decide)))
  have f113 : Old Z n0 h105 := f100.wr W105 g_r0
  have f114 : Exa Z h105 b2 "java/util/ArrayList" := f101.wr W105
  have f115 : Exa Z h105 b39 "java/util/ArrayList" := f102.wr W105
  have z116 : n0 ≤ h105.size := Nat.le_trans z103 (Nat.le_of_eq W105.size.symm)
  have kp117 : Keep h0 h105 [r0] := kp104.wr W105 (Or.inl (List.mem_of_getElem? (i := 0) rfl))
  have N105 := Fr.snoc X105 N92 g_r0
  obtain ⟨T118, h118, X118, e118, W118, st118⟩ := putF X105 hx hZ hown (host := "") (Or.inl (hw _ (List.mem_of_getElem? (i := 43) rfl))) Via.refl e105 f112 f106 (Or.inr ⟨(hw _ (List.mem_of_getElem? (i := 44) rfl)), rfl, hnm⟩) (hw _ (List.mem_of_getElem? (i := 1) rfl)) (ty := (.object "com/example/nuthatch/nuthatch/planning/PlannedCache")) (by decide) rfl rfl (g := (mkF m 44 #[.val (.ref r0), .val .null, .val (.int p2), .val .null, .val .null] [.null, (.ref r0)])) rfl rfl (hb hby d1_44)
  have f119 : Exa Z h118 r0 "com/example/nuthatch/nuthatch/planning/PlannedVm" := f106.wr W118
  have f120 : Fld Z h118 r0 "com/example/nuthatch/nuthatch/planning/PlannedVm" "slots" "Ljava/util/List;" (.ref b2) := f107.other W118 (Or.inr (slot_ne (Or.inr (hw _ (List.mem_of_getElem? (i := 34) rfl))) (Or.inr (hw _ (List.mem_of_getElem? (i := 44) rfl))) (by decide) (t := (.object "java/util/List")) (t' := (.object "com/example/nuthatch/nuthatch/planning/PlannedCache")) (by decide) (by decide)))
  have f121 : Fld Z h118 r0 "com/example/nuthatch/nuthatch/planning/PlannedVm" "gaps" "Ljava/util/List;" (.ref b39) := f108.other W118 (Or.inr (slot_ne (Or.inr (hw _ (List.mem_of_getElem? (i := 36) rfl))) (Or.inr (hw _ (List.mem_of_getElem? (i := 44) rfl))) (by decide) (t := (.object "java/util/List")) (t' := (.object "com/example/nuthatch/nuthatch/planning/PlannedCache")) (by decide) (by decide)))
  have f122 : Fld Z h118 r0 "com/example/nuthatch/nuthatch/planning/PlannedVm" "terms" "Lcom/example/nuthatch/nuthatch/planning/VmTerms;" .null := f109.other W118 (Or.inr (slot_ne (Or.inr (hw _ (List.mem_of_getElem? (i := 38) rfl))) (Or.inr (hw _ (List.mem_of_getElem? (i := 44) rfl))) (by decide) (t := (.object "com/example/nuthatch/nuthatch/planning/VmTerms")) (t' := (.object "com/example/nuthatch/nuthatch/planning/PlannedCache")) (by decide) (by decide)))
  have f123 : Fld Z h118 r0 "com/example/nuthatch/nuthatch/planning/PlannedVm" "number" "I" (.int p2) := f110.other W118 (Or.inr (slot_ne (Or.inr (hw _ (List.mem_of_getElem? (i := 40) rfl))) (Or.inr (hw _ (List.mem_of_getElem? (i := 44) rfl))) (by decide) (t := .int) (t' := (.object "com/example/nuthatch/nuthatch/planning/PlannedCache")) (by decide) (by decide)))
  have f124 : Fld Z h118 r0 "com/example/nuthatch/nuthatch/planning/PlannedVm" "free" "Lcom/example/nuthatch/nuthatch/planning/FreeTime;" .null := f111.other W118 (Or.inr (slot_ne (Or.inr (hw _ (List.mem_of_getElem? (i := 42) rfl))) (Or.inr (hw _ (List.mem_of_getElem? (i := 44) rfl))) (by decide) (t := (.object "com/example/nuthatch/nuthatch/planning/FreeTime")) (t' := (.object "com/example/nuthatch/nuthatch/planning/PlannedCache")) (by decide) (by decide)))
  have f125 : Fld Z h118 r0 "com/example/nuthatch/nuthatch/planning/PlannedVm" "cache" "Lcom/example/nuthatch/nuthatch/planning/PlannedCache;" .null := f112.same W118
  have f126 : Old Z n0 h118 := f113.wr W118 g_r0
  have f127 : Exa Z h118 b2 "java/util/ArrayList" := f114.wr W118
  have f128 : Exa Z h118 b39 "java/util/ArrayList" := f115.wr W118
  have z129 : n0 ≤ h118.size := Nat.le_trans z116 (Nat.le_of_eq W118.size.symm)
  have kp130 : Keep h0 h118 [r0] := kp117.wr W118 (Or.inl (List.mem_of_getElem? (i := 0) rfl))
  have N118 := Fr.snoc X118 N105 g_r0
  obtain ⟨fs, hr, hrun, hended, hW, hsame⟩ := X118.leave (v := none) (fun _ => rfl)
  refine ⟨_, _, G0 _ ?_, hrun, hended, _, _, rfl, ?_, ⟨_, rfl⟩, hW, hsame.mono (by decide) (by decide)⟩
  · skip
    show Steps p.tables e below (s₁.setTop (mkF m 0 #[.val (.ref r0), .val .null, .val (.int p2), .val .null, .val .null] [])) _
    refine XS.aloadN X0.here hx rfl (hb hby d1_0) rfl rfl ?_
    show Steps p.tables e below (s₁.setTop (mkF m 1 #[.val (.ref r0), .val .null, .val (.int p2), .val .null, .val .null] [(.ref r0)])) _
    refine st1 _ ?_
    show Steps p.tables e below (T1.setTop (mkF m 4 #[.val (.ref r0), .val .null, .val (.int p2), .val .null, .val .null] [])) _
    refine XS.aloadN X1.here hx rfl (hb hby d1_4) rfl rfl ?_
    show Steps p.tables e below (T1.setTop (mkF m 5 #[.val (.ref r0), .val .null, .val (.int p2), .val .null, .val .null] [(.ref r0)])) _
    refine st2 _ ?_
    show Steps p.tables e below (T2.setTop (mkF m 8 #[.val (.ref r0), .val .null, .val (.int p2), .val .null, .val .null] [(.ref b2), (.ref r0)])) _
    refine XS.dup X2.here hx rfl (hb hby d1_8) rfl rfl ?_
    show Steps p.tables e below (T2.setTop (mkF m 9 #[.val (.ref r0), .val .null, .val (.int p2), .val .null, .val .null] [(.ref b2), (.ref b2), (.ref r0)])) _
    refine st15.trans ?_
    show Steps p.tables e below (T15.setTop (mkF m 12 #[.val (.ref r0), .val .null, .val (.int p2), .val .null, .val .null] [(.ref b2), (.ref r0)])) _
    refine st27 _ ?_
    show Steps p.tables e below (T27.setTop (mkF m 15 #[.val (.ref r0), .val .null, .val (.int p2), .val .null, .val .null] [])) _
    refine XS.aloadN X27.here hx rfl (hb hby d1_15) rfl rfl ?_
    show Steps p.tables e below (T27.setTop (mkF m 16 #[.val (.ref r0), .val .null, .val (.int p2), .val .null, .val .null] [(.ref r0)])) _
    refine st39 _ ?_
    show Steps p.tables e below (T39.setTop (mkF m 19 #[.val (.ref r0), .val .null, .val (.int p2), .val .null, .val .null] [(.ref b39), (.ref r0)])) _
    refine XS.dup X39.here hx rfl (hb hby d1_19) rfl rfl ?_
    show Steps p.tables e below (T39.setTop (mkF m 20 #[.val (.ref r0), .val .null, .val (.int p2), .val .null, .val .null] [(.ref b39), (.ref b39), (.ref r0)])) _
    refine st53.trans ?_
    show Steps p.tables e below (T53.setTop (mkF m 23 #[.val (.ref r0), .val .null, .val (.int p2), .val .null, .val .null] [(.ref b39), (.ref r0)])) _
    refine st66 _ ?_
    show Steps p.tables e below (T66.setTop (mkF m 26 #[.val (.ref r0), .val .null, .val (.int p2), .val .null, .val .null] [])) _
    refine XS.aloadN X66.here hx rfl (hb hby d1_26) rfl rfl ?_
    show Steps p.tables e below (T66.setTop (mkF m 27 #[.val (.ref r0), .val .null, .val (.int p2), .val .null, .val .null] [(.ref r0)])) _
    refine XS.aloadN X66.here hx rfl (hb hby d1_27) rfl rfl ?_
    show Steps p.tables e below (T66.setTop (mkF m 28 #[.val (.ref r0), .val .null, .val (.int p2), .val .null, .val .null] [.null, (.ref r0)])) _
    refine st79 _ ?_
    show Steps p.tables e below (T79.setTop (mkF m 31 #[.val (.ref r0), .val .null, .val (.int p2), .val .null, .val .null] [])) _
    refine XS.aloadN X79.here hx rfl (hb hby d1_31) rfl rfl ?_
    show Steps p.tables e below (T79.setTop (mkF m 32 #[.val (.ref r0), .val .null, .val (.int p2), .val .null, .val .null] [(.ref r0)])) _
    refine XS.iloadN X79.here hx rfl (hb hby d1_32) rfl ?_
    show Steps p.tables e below (T79.setTop (mkF m 33 #[.val (.ref r0), .val .null, .val (.int p2), .val .null, .val .null] [(.int p2), (.ref r0)])) _
    refine st92 _ ?_
    show Steps p.tables e below (T92.setTop (mkF m 36 #[.val (.ref r0), .val .null, .val (.int p2), .val .null, .val .null] [])) _
    refine XS.aloadN X92.here hx rfl (hb hby d1_36) rfl rfl ?_
    show Steps p.tables e below (T92.setTop (mkF m 37 #[.val (.ref r0), .val .null, .val (.int p2), .val .null, .val .null] [(.ref r0)])) _
    refine XS.aloadN X92.here hx rfl (hb hby d1_37) rfl rfl ?_
    show Steps p.tables e below (T92.setTop (mkF m 38 #[.val (.ref r0), .val .null, .val (.int p2), .val .null, .val .null] [.null, (.ref r0)])) _
    refine st105 _ ?_
    show Steps p.tables e below (T105.setTop (mkF m 41 #[.val (.ref r0), .val .null, .val (.int p2), .val .null, .val .null] [])) _
    refine XS.aloadN X105.here hx rfl (hb hby d1_41) rfl rfl ?_
    show Steps p.tables e below (T105.setTop (mkF m 42 #[.val (.ref r0), .val .null, .val (.int p2), .val .null, .val .null] [(.ref r0)])) _
    refine XS.aload X105.here hx rfl (hb hby d1_42) rfl rfl ?_
    show Steps p.tables e below (T105.setTop (mkF m 44 #[.val (.ref r0), .val .null, .val (.int p2), .val .null, .val .null] [.null, (.ref r0)])) _
    refine st118 _ ?_
    show Steps p.tables e below (T118.setTop (mkF m 47 #[.val (.ref r0), .val .null, .val (.int p2), .val .null, .val .null] [])) _
    exact X118.returnOut hx Bd.returns (hb hby d1_47) hr
  · show Q1 Z r0 p2 dca h0 n0 _ T118.heap _
    rw [e118]
    exact ⟨rfl, N118, kp130, f119, f123⟩
theorem d6_0 : decode prog_41_method_1_code 0 = .ok (.aload_n 0, 1) := by decide +kernel
theorem d6_1 : decode prog_41_method_1_code 1 = .ok (.invokespecial 1, 3) := by decide +kernel
theorem d6_4 : decode prog_41_method_1_code 4 = .ok (.aload_n 0, 1) := by decide +kernel
theorem d6_5 : decode prog_41_method_1_code 5 = .ok (.aload_n 1, 1) := by decide +kernel
theorem d6_6 : decode prog_41_method_1_code 6 = .ok (.putfield 7, 3) := by decide +kernel
theorem d6_9 : decode prog_41_method_1_code 9 = .ok (.aload_n 0, 1) := by decide +kernel
theorem d6_10 : decode prog_41_method_1_code 10 = .ok (.dload_n 2, 1) := by decide +kernel
theorem d6_11 : decode prog_41_method_1_code 11 = .ok (.putfield 13, 3) := by decide +kernel
theorem d6_14 : decode prog_41_method_1_code 14 = .ok (.aload_n 0, 1) := by decide +kernel
theorem d6_15 : decode prog_41_method_1_code 15 = .ok (.dload 4, 2) := by decide +kernel
theorem d6_17 : decode prog_41_method_1_code 17 = .ok (.putfield 17, 3) := by decide +kernel
theorem d6_20 : decode prog_41_method_1_code 20 = .ok (.aload_n 0, 1) := by decide +kernel
theorem d6_21 : decode prog_41_method_1_code 21 = .ok (.dload 6, 2) := by decide +kernel
theorem d6_23 : decode prog_41_method_1_code 23 = .ok (.putfield 20, 3) := by decide +kernel
theorem d6_26 : decode prog_41_method_1_code 26 = .ok (.aload_n 0, 1) := by decide +kernel
theorem d6_27 : decode prog_41_method_1_code 27 = .ok (.lload 8, 2) := by decide +kernel
theorem d6_29 : decode prog_41_method_1_code 29 = .ok (.putfield 23, 3) := by decide +kernel
theorem d6_32 : decode prog_41_method_1_code 32 = .ok (.return_, 1) := by decide +kernel
def Q6 (Z : State) (r0 : Addr) (r1 : Addr) (d2 : UInt64) (d3 : UInt64) (d4 : UInt64) (q5 : Int64) (h0 : Heap) (n0 : Nat) (v : Option Value) (h : Heap) (L : List Loc) : Prop := v = none ∧ Fr n0 L ∧ Keep h0 h [r0] ∧ Exa Z h r0 "com/example/nuthatch/nuthatch/planning/Placement" ∧ Fld Z h r0 "com/example/nuthatch/nuthatch/planning/Placement" "vm" "Lcom/example/nuthatch/nuthatch/planning/PlannedVm;" (.ref r1) ∧ Fld Z h r0 "com/example/nuthatch/nuthatch/planning/Placement" "start" "D" (.double d2) ∧ Fld Z h r0 "com/example/nuthatch/nuthatch/planning/Placement" "finish" "D" (.double d3) ∧ Fld Z h r0 "com/example/nuthatch/nuthatch/planning/Placement" "cost" "J" (.long q5)
theorem ef_rm6 (m : MethodId) (x0 : Addr) (x1 : Addr) (x2 : UInt64) (x3 : UInt64) (x4 : UInt64) (x5 : Int64) : entryFrame m #[(.ref x0), (.ref x1), (.double x2), (.double x3), (.double x4), (.long x5)] 10 = mkF m 0 #[.val (.ref x0), .val (.ref x1), .val (.double x2), .second, .val (.double x3), .second, .val (.double x4), .second, .val (.long x5), .second] [] := by first | (simp [entryFrame, mkF, argsToLocals, Value.category]; done) | rfl
theorem pnc_com_example_nuthatch_nuthatch_planning_Placement : plainName "com/example/nuthatch/nuthatch/planning/Placement" = true := by first | (simp [plainName, overriddenIn]; done) | decide +kernel
set_option maxRecDepth 65536 in
set_option maxHeartbeats 40000000 in
theorem rm6 (l : Launch) (Z : State) (a0 : Array Value) (hw : ∀ d ∈ tables_1, d.before a0 Z = true) (ws : List Jvm.Cond) (r0 : Addr) (r1 : Addr) (d2 : UInt64) (d3 : UInt64) (d4 : UInt64) (q5 : Int64) (h0 : Heap) (n0 : Nat) (Z0 : n0 ≤ h0.size) (E0 : Exa Z h0 r0 "com/example/nuthatch/nuthatch/planning/Placement") (Fvm : Fld Z h0 r0 "com/example/nuthatch/nuthatch/planning/Placement" "vm" "Lcom/example/nuthatch/nuthatch/planning/PlannedVm;" .null) (Fstart : Fld Z h0 r0 "com/example/nuthatch/nuthatch/planning/Placement" "start" "D" (.double 0)) (Ffinish : Fld Z h0 r0 "com/example/nuthatch/nuthatch/planning/Placement" "finish" "D" (.double 0)) (FspanStart : Fld Z h0 r0 "com/example/nuthatch/nuthatch/planning/Placement" "spanStart" "D" (.double 0)) (Fcost : Fld Z h0 r0 "com/example/nuthatch/nuthatch/planning/Placement" "cost" "J" (.long (0 : Int64))) (g_r0 : n0 ≤ r0) :
    MetFree l (⟨"com/example/nuthatch/nuthatch/planning/Placement", "<init>", "(Lcom/example/nuthatch/nuthatch/planning/PlannedVm;DDDJ)V"⟩ : MethodName) (head1 (Jvm.Cond.code (⟨"com/example/nuthatch/nuthatch/planning/Placement", "<init>", "(Lcom/example/nuthatch/nuthatch/planning/PlannedVm;DDDJ)V"⟩ : MethodName) prog_41_method_1_code 10 none :: ws) ({ frames := 2, cells := 0, slots := 0, locals := 24 } : Room)) (fun a U => a = #[(.ref r0), (.ref r1), (.double d2), (.double d3), (.double d4), (.long q5)] ∧ Z.Warmed39 U.vm ∧ U.heap = h0) (fun _ _ _ _ _ => True) (fun _ U o U' => ∃ v L, o = .returned v ∧ Q6 Z r0 r1 d2 d3 d4 q5 h0 n0 v U'.heap L ∧ FrameEnd U o U' L ({ frames := 2, cells := 0, slots := 0, locals := 24 } : Room).cells ({ frames := 2, cells := 0, slots := 0, locals := 24 } : Room).slots) := by
  refine MetFree.of_bodySF (plainFor_of_name pnc_com_example_nuthatch_nuthatch_planning_Placement) hisR ?_
  intro p e s m args below meth c s₁ Bd hml0 hP hK
  obtain ⟨rfl, hZ, hh⟩ := hP
  have hx := Bd.exec
  have hby := Bd.bytes
  have hml : c.maxLocals = 10 := hml0
  have hown : s.vm.findClass "com/example/nuthatch/nuthatch/planning/Placement" = some m.cls := findClass_of_methodNamed Bd.named
  have hnm := (name_of_methodNamed Bd.named Bd.method).1
  have X0 : Stand p l e ({ frames := 2, cells := 0, slots := 0, locals := 24 } : Room) s m #[(.ref r0), (.ref r1), (.double d2), (.double d3), (.double d4), (.long q5)] below meth c s₁ [] 0 0 := Stand.of_body Bd
  have e0 : s₁.heap = h0 := by rw [← hh, Bd.state]; rfl
  have N0 := Fr.nil n0
  have kp0 : Keep h0 h0 [r0] := Keep.refl _ _
  have G0 : ∀ t, Steps p.tables e below (s₁.setTop (mkF m 0 #[.val (.ref r0), .val (.ref r1), .val (.double d2), .second, .val (.double d3), .second, .val (.double d4), .second, .val (.long q5), .second] [])) t → Steps p.tables e below (s₁.setTop (entryFrame m #[(.ref r0), (.ref r1), (.double d2), (.double d3), (.double d4), (.long q5)] 10)) t := fun t k => castTop (ef_rm6 m r0 r1 d2 d3 d4 q5) k
  obtain ⟨_, _, ⟨T1, L1, k1, n1⟩, -, X1, ⟨Lc1, hQ1, l1, y1, z1⟩, st1⟩ := X0.specialBack hx (y := (⟨"java/lang/Record", "<init>", "()V"⟩ : MethodName)) rfl hown (mvT hZ (hw _ (List.mem_of_getElem? (i := 51) rfl))) (mvT hZ (hw _ (List.mem_of_getElem? (i := 52) rfl))) (mvT hZ (hw _ (List.mem_of_getElem? (i := 55) rfl))) (by decide) (backOf (W := 0) (rm7 l Z a0 hw [] r0  h0 n0 Z0 ) hZ (hw _ (List.mem_of_getElem? (i := 55) rfl)) (hw _ (List.mem_of_getElem? (i := 54) rfl)) (by decide) (by decide)) (g := (mkF m 1 #[.val (.ref r0), .val (.ref r1), .val (.double d2), .second, .val (.double d3), .second, .val (.double d4), .second, .val (.long q5), .second] [(.ref r0)])) rfl (by rw [hml]; rfl) (Steps.refl _) (a := r0) (argsL := []) (rest := []) (lenOf pd_0 rfl) rfl (by show 2 * 0 + _ ≤ _; exact Nat.le_of_eq rfl) (hb hby d6_1) (fun _ _ => ⟨rfl, e0, (by decide : 0 + 0 ≤ _), (by decide : 0 + 0 ≤ _)⟩)
  dsimp only [Pt.U, Pt.locs, Pt.cells, Pt.slots] at X1 l1 y1 z1 st1 hQ1
  subst l1 y1 z1
  obtain ⟨rfl, N1q, eh1⟩ := hQ1
  have N1 := Fr.app N0 N1q
  obtain ⟨T2, h2, X2, e2, W2, st2⟩ := putF X1 hx hZ hown (host := "") (Or.inl (hw _ (List.mem_of_getElem? (i := 57) rfl))) Via.refl eh1 Fvm E0 (Or.inr ⟨(hw _ (List.mem_of_getElem? (i := 58) rfl)), rfl, hnm⟩) (hw _ (List.mem_of_getElem? (i := 46) rfl)) (ty := (.object "com/example/nuthatch/nuthatch/planning/PlannedVm")) (by decide) rfl rfl (g := (mkF m 6 #[.val (.ref r0), .val (.ref r1), .val (.double d2), .second, .val (.double d3), .second, .val (.double d4), .second, .val (.long q5), .second] [(.ref r1), (.ref r0)])) rfl rfl (hb hby d6_6)
  have f3 : Exa Z h2 r0 "com/example/nuthatch/nuthatch/planning/Placement" := E0.wr W2
  have f4 : Fld Z h2 r0 "com/example/nuthatch/nuthatch/planning/Placement" "vm" "Lcom/example/nuthatch/nuthatch/planning/PlannedVm;" (.ref r1) := Fvm.same W2
  have f5 : Fld Z h2 r0 "com/example/nuthatch/nuthatch/planning/Placement" "start" "D" (.double 0) := Fstart.other W2 (Or.inr (slot_ne (Or.inr (hw _ (List.mem_of_getElem? (i := 60) rfl))) (Or.inr (hw _ (List.mem_of_getElem? (i := 58) rfl))) (by decide) (t := .double) (t' := (.object "com/example/nuthatch/nuthatch/planning/PlannedVm")) (by decide) (by decide)))
  have f6 : Fld Z h2 r0 "com/example/nuthatch/nuthatch/planning/Placement" "finish" "D" (.double 0) := Ffinish.other W2 (Or.inr (slot_ne (Or.inr (hw _ (List.mem_of_getElem? (i := 62) rfl))) (Or.inr (hw _ (List.mem_of_getElem? (i := 58) rfl))) (by decide) (t := .double) (t' := (.object "com/example/nuthatch/nuthatch/planning/PlannedVm")) (by decide) (by decide)))
  have f7 : Fld Z h2 r0 "com/example/nuthatch/nuthatch/planning/Placement" "spanStart" "D" (.double 0) := FspanStart.other W2 (Or.inr (slot_ne (Or.inr (hw _ (List.mem_of_getElem? (i := 64) rfl))) (Or.inr (hw _ (List.mem_of_getElem? (i := 58) rfl))) (by decide) (t := .double) (t' := (.object "com/example/nuthatch/nuthatch/planning/PlannedVm")) (by decide) (by decide)))
  have f8 : Fld Z h2 r0 "com/example/nuthatch/nuthatch/planning/Placement" "cost" "J" (.long (0 : Int64)) := Fcost.other W2 (Or.inr (slot_ne (Or.inr (hw _ (List.mem_of_getElem? (i := 66) rfl))) (Or.inr (hw _ (List.mem_of_getElem? (i := 58) rfl))) (by decide) (t := .long) (t' := (.object "com/example/nuthatch/nuthatch/planning/PlannedVm")) (by decide) (by decide)))
  have z9 : n0 ≤ h2.size := Nat.le_trans Z0 (Nat.le_of_eq W2.size.symm)
  have kp10 : Keep h0 h2 [r0] := kp0.wr W2 (Or.inl (List.mem_of_getElem? (i := 0) rfl))
  have N2 := Fr.snoc X2 N1 g_r0
  obtain ⟨T11, h11, X11, e11, W11, st11⟩ := putF X2 hx hZ hown (host := "") (Or.inl (hw _ (List.mem_of_getElem? (i := 59) rfl))) Via.refl e2 f5 f3 (Or.inr ⟨(hw _ (List.mem_of_getElem? (i := 60) rfl)), rfl, hnm⟩) (hw _ (List.mem_of_getElem? (i := 46) rfl)) (ty := .double) (by decide) rfl rfl (g := (mkF m 11 #[.val (.ref r0), .val (.ref r1), .val (.double d2), .second, .val (.double d3), .second, .val (.double d4), .second, .val (.long q5), .second] [(.double d2), (.ref r0)])) rfl rfl (hb hby d6_11)
  have f12 : Exa Z h11 r0 "com/example/nuthatch/nuthatch/planning/Placement" := f3.wr W11
  have f13 : Fld Z h11 r0 "com/example/nuthatch/nuthatch/planning/Placement" "vm" "Lcom/example/nuthatch/nuthatch/planning/PlannedVm;" (.ref r1) := f4.other W11 (Or.inr (slot_ne (Or.inr (hw _ (List.mem_of_getElem? (i := 58) rfl))) (Or.inr (hw _ (List.mem_of_getElem? (i := 60) rfl))) (by decide) (t := (.object "com/example/nuthatch/nuthatch/planning/PlannedVm")) (t' := .double) (by decide) (by decide)))
  have f14 : Fld Z h11 r0 "com/example/nuthatch/nuthatch/planning/Placement" "start" "D" (.double d2) := f5.same W11
  have f15 : Fld Z h11 r0 "com/example/nuthatch/nuthatch/planning/Placement" "finish" "D" (.double 0) := f6.other W11 (Or.inr (slot_ne (Or.inr (hw _ (List.mem_of_getElem? (i := 62) rfl))) (Or.inr (hw _ (List.mem_of_getElem? (i := 60) rfl))) (by decide) (t := .double) (t' := .double) (by decide) (by decide)))
  have f16 : Fld Z h11 r0 "com/example/nuthatch/nuthatch/planning/Placement" "spanStart" "D" (.double 0) := f7.other W11 (Or.inr (slot_ne (Or.inr (hw _ (List.mem_of_getElem? (i := 64) rfl))) (Or.inr (hw _ (List.mem_of_getElem? (i := 60) rfl))) (by decide) (t := .double) (t' := .double) (by decide) (by decide)))
  have f17 : Fld Z h11 r0 "com/example/nuthatch/nuthatch/planning/Placement" "cost" "J" (.long (0 : Int64)) := f8.other W11 (Or.inr (slot_ne (Or.inr (hw _ (List.mem_of_getElem? (i := 66) rfl))) (Or.inr (hw _ (List.mem_of_getElem? (i := 60) rfl))) (by decide) (t := .long) (t' := .double) (by decide) (by decide)))
  have z18 : n0 ≤ h11.size := Nat.le_trans z9 (Nat.le_of_eq W11.size.symm)
  have kp19 : Keep h0 h11 [r0] := kp10.wr W11 (Or.inl (List.mem_of_getElem? (i := 0) rfl))
  have N11 := Fr.snoc X11 N2 g_r0
  obtain ⟨T20, h20, X20, e20, W20, st20⟩ := putF X11 hx hZ hown (host := "") (Or.inl (hw _ (List.mem_of_getElem? (i := 61) rfl))) Via.refl e11 f15 f12 (Or.inr ⟨(hw _ (List.mem_of_getElem? (i := 62) rfl)), rfl, hnm⟩) (hw _ (List.mem_of_getElem? (i := 46) rfl)) (ty := .double) (by decide) rfl rfl (g := (mkF m 17 #[.val (.ref r0), .val (.ref r1), .val (.double d2), .second, .val (.double d3), .second, .val (.double d4), .second, .val (.long q5), .second] [(.double d3), (.ref r0)])) rfl rfl (hb hby d6_17)
  have f21 : Exa Z h20 r0 "com/example/nuthatch/nuthatch/planning/Placement" := f12.wr W20
  have f22 : Fld Z h20 r0 "com/example/nuthatch/nuthatch/planning/Placement" "vm" "Lcom/example/nuthatch/nuthatch/planning/PlannedVm;" (.ref r1) := f13.other W20 (Or.inr (slot_ne (Or.inr (hw _ (List.mem_of_getElem? (i := 58) rfl))) (Or.inr (hw _ (List.mem_of_getElem? (i := 62) rfl))) (by decide) (t := (.object "com/example/nuthatch/nuthatch/planning/PlannedVm")) (t' := .double) (by decide) (by decide)))
  have f23 : Fld Z h20 r0 "com/example/nuthatch/nuthatch/planning/Placement" "start" "D" (.double d2) := f14.other W20 (Or.inr (slot_ne (Or.inr (hw _ (List.mem_of_getElem? (i := 60) rfl))) (Or.inr (hw _ (List.mem_of_getElem? (i := 62) rfl))) (by decide) (t := .double) (t' := .double) (by decide) (by decide)))
  have f24 : Fld Z h20 r0 "com/example/nuthatch/nuthatch/planning/Placement" "finish" "D" (.double d3) := f15.same W20
  have f25 : Fld Z h20 r0 "com/example/nuthatch/nuthatch/planning/Placement" "spanStart" "D" (.double 0) := f16.other W20 (Or.inr (slot_ne (Or.inr (hw _ (List.mem_of_getElem? (i := 64) rfl))) (Or.inr (hw _ (List.mem_of_getElem? (i := 62) rfl))) (by decide) (t := .double) (t' := .double) (by decide) (by decide)))
  have f26 : Fld Z h20 r0 "com/example/nuthatch/nuthatch/planning/Placement" "cost" "J" (.long (0 : Int64)) := f17.other W20 (Or.inr (slot_ne (Or.inr (hw _ (List.mem_of_getElem? (i := 66) rfl))) (Or.inr (hw _ (List.mem_of_getElem? (i := 62) rfl))) (by decide) (t := .long) (t' := .double) (by decide) (by decide)))
  have z27 : n0 ≤ h20.size := Nat.le_trans z18 (Nat.le_of_eq W20.size.symm)
  have kp28 : Keep h0 h20 [r0] := kp19.wr W20 (Or.inl (List.mem_of_getElem? (i := 0) rfl))
  have N20 := Fr.snoc X20 N11 g_r0
  obtain ⟨T29, h29, X29, e29, W29, st29⟩ := putF X20 hx hZ hown (host := "") (Or.inl (hw _ (List.mem_of_getElem? (i := 63) rfl))) Via.refl e20 f25 f21 (Or.inr ⟨(hw _ (List.mem_of_getElem? (i := 64) rfl)), rfl, hnm⟩) (hw _ (List.mem_of_getElem? (i := 46) rfl)) (ty := .double) (by decide) rfl rfl (g := (mkF m 23 #[.val (.ref r0), .val (.ref r1), .val (.double d2), .second, .val (.double d3), .second, .val (.double d4), .second, .val (.long q5), .second] [(.double d4), (.ref r0)])) rfl rfl (hb hby d6_23)
  have f30 : Exa Z h29 r0 "com/example/nuthatch/nuthatch/planning/Placement" := f21.wr W29
  have f31 : Fld Z h29 r0 "com/example/nuthatch/nuthatch/planning/Placement" "vm" "Lcom/example/nuthatch/nuthatch/planning/PlannedVm;" (.ref r1) := f22.other W29 (Or.inr (slot_ne (Or.inr (hw _ (List.mem_of_getElem? (i := 58) rfl))) (Or.inr (hw _ (List.mem_of_getElem? (i := 64) rfl))) (by decide) (t := (.object "com/example/nuthatch/nuthatch/planning/PlannedVm")) (t' := .double) (by decide) (by decide)))
  have f32 : Fld Z h29 r0 "com/example/nuthatch/nuthatch/planning/Placement" "start" "D" (.double d2) := f23.other W29 (Or.inr (slot_ne (Or.inr (hw _ (List.mem_of_getElem? (i := 60) rfl))) (Or.inr (hw _ (List.mem_of_getElem? (i := 64) rfl))) (by decide) (t := .double) (t' := .double) (by decide) (by decide)))
  have f33 : Fld Z h29 r0 "com/example/nuthatch/nuthatch/planning/Placement" "finish" "D" (.double d3) := f24.other W29 (Or.inr (slot_ne (Or.inr (hw _ (List.mem_of_getElem? (i := 62) rfl))) (Or.inr (hw _ (List.mem_of_getElem? (i := 64) rfl))) (by decide) (t := .double) (t' := .double) (by decide) (by decide)))
  have f34 : Fld Z h29 r0 "com/example/nuthatch/nuthatch/planning/Placement" "spanStart" "D" (.double d4) := f25.same W29
  have f35 : Fld Z h29 r0 "com/example/nuthatch/nuthatch/planning/Placement" "cost" "J" (.long (0 : Int64)) := f26.other W29 (Or.inr (slot_ne (Or.inr (hw _ (List.mem_of_getElem? (i := 66) rfl))) (Or.inr (hw _ (List.mem_of_getElem? (i := 64) rfl))) (by decide) (t := .long) (t' := .double) (by decide) (by decide)))
  have z36 : n0 ≤ h29.size := Nat.le_trans z27 (Nat.le_of_eq W29.size.symm)
  have kp37 : Keep h0 h29 [r0] := kp28.wr W29 (Or.inl (List.mem_of_getElem? (i := 0) rfl))
  have N29 := Fr.snoc X29 N20 g_r0
  obtain ⟨T38, h38, X38, e38, W38, st38⟩ := putF X29 hx hZ hown (host := "") (Or.inl (hw _ (List.mem_of_getElem? (i := 65) rfl))) Via.refl e29 f35 f30 (Or.inr ⟨(hw _ (List.mem_of_getElem? (i := 66) rfl)), rfl, hnm⟩) (hw _ (List.mem_of_getElem? (i := 46) rfl)) (ty := .long) (by decide) rfl rfl (g := (mkF m 29 #[.val (.ref r0), .val (.ref r1), .val (.double d2), .second, .val (.double d3), .second, .val (.double d4), .second, .val (.long q5), .second] [(.long q5), (.ref r0)])) rfl rfl (hb hby d6_29)
  have f39 : Exa Z h38 r0 "com/example/nuthatch/nuthatch/planning/Placement" := f30.wr W38
  have f40 : Fld Z h38 r0 "com/example/nuthatch/nuthatch/planning/Placement" "vm" "Lcom/example/nuthatch/nuthatch/planning/PlannedVm;" (.ref r1) := f31.other W38 (Or.inr (slot_ne (Or.inr (hw _ (List.mem_of_getElem? (i := 58) rfl))) (Or.inr (hw _ (List.mem_of_getElem? (i := 66) rfl))) (by decide) (t := (.object "com/example/nuthatch/nuthatch/planning/PlannedVm")) (t' := .long) (by decide) (by decide)))
  have f41 : Fld Z h38 r0 "com/example/nuthatch/nuthatch/planning/Placement" "start" "D" (.double d2) := f32.other W38 (Or.inr (slot_ne (Or.inr (hw _ (List.mem_of_getElem? (i := 60) rfl))) (Or.inr (hw _ (List.mem_of_getElem? (i := 66) rfl))) (by decide) (t := .double) (t' := .long) (by decide) (by decide)))
  have f42 : Fld Z h38 r0 "com/example/nuthatch/nuthatch/planning/Placement" "finish" "D" (.double d3) := f33.other W38 (Or.inr (slot_ne (Or.inr (hw _ (List.mem_of_getElem? (i := 62) rfl))) (Or.inr (hw _ (List.mem_of_getElem? (i := 66) rfl))) (by decide) (t := .double) (t' := .long) (by decide) (by decide)))
  have f43 : Fld Z h38 r0 "com/example/nuthatch/nuthatch/planning/Placement" "spanStart" "D" (.double d4) := f34.other W38 (Or.inr (slot_ne (Or.inr (hw _ (List.mem_of_getElem? (i := 64) rfl))) (Or.inr (hw _ (List.mem_of_getElem? (i := 66) rfl))) (by decide) (t := .double) (t' := .long) (by decide) (by decide)))
  have f44 : Fld Z h38 r0 "com/example/nuthatch/nuthatch/planning/Placement" "cost" "J" (.long q5) := f35.same W38
  have z45 : n0 ≤ h38.size := Nat.le_trans z36 (Nat.le_of_eq W38.size.symm)
  have kp46 : Keep h0 h38 [r0] := kp37.wr W38 (Or.inl (List.mem_of_getElem? (i := 0) rfl))
  have N38 := Fr.snoc X38 N29 g_r0
  obtain ⟨fs, hr, hrun, hended, hW, hsame⟩ := X38.leave (v := none) (fun _ => rfl)
  refine ⟨_, _, G0 _ ?_, hrun, hended, _, _, rfl, ?_, ⟨_, rfl⟩, hW, hsame.mono (by decide) (by decide)⟩
  · skip
    show Steps p.tables e below (s₁.setTop (mkF m 0 #[.val (.ref r0), .val (.ref r1), .val (.double d2), .second, .val (.double d3), .second, .val (.double d4), .second, .val (.long q5), .second] [])) _
    refine XS.aloadN X0.here hx rfl (hb hby d6_0) rfl rfl ?_
    show Steps p.tables e below (s₁.setTop (mkF m 1 #[.val (.ref r0), .val (.ref r1), .val (.double d2), .second, .val (.double d3), .second, .val (.double d4), .second, .val (.long q5), .second] [(.ref r0)])) _
    refine st1.trans ?_
    show Steps p.tables e below (T1.setTop (mkF m 4 #[.val (.ref r0), .val (.ref r1), .val (.double d2), .second, .val (.double d3), .second, .val (.double d4), .second, .val (.long q5), .second] [])) _
    refine XS.aloadN X1.here hx rfl (hb hby d6_4) rfl rfl ?_
    show Steps p.tables e below (T1.setTop (mkF m 5 #[.val (.ref r0), .val (.ref r1), .val (.double d2), .second, .val (.double d3), .second, .val (.double d4), .second, .val (.long q5), .second] [(.ref r0)])) _
    refine XS.aloadN X1.here hx rfl (hb hby d6_5) rfl rfl ?_
    show Steps p.tables e below (T1.setTop (mkF m 6 #[.val (.ref r0), .val (.ref r1), .val (.double d2), .second, .val (.double d3), .second, .val (.double d4), .second, .val (.long q5), .second] [(.ref r1), (.ref r0)])) _
    refine st2 _ ?_
    show Steps p.tables e below (T2.setTop (mkF m 9 #[.val (.ref r0), .val (.ref r1), .val (.double d2), .second, .val (.double d3), .second, .val (.double d4), .second, .val (.long q5), .second] [])) _
    refine XS.aloadN X2.here hx rfl (hb hby d6_9) rfl rfl ?_
    show Steps p.tables e below (T2.setTop (mkF m 10 #[.val (.ref r0), .val (.ref r1), .val (.double d2), .second, .val (.double d3), .second, .val (.double d4), .second, .val (.long q5), .second] [(.ref r0)])) _
    refine XS.dloadN X2.here hx rfl (hb hby d6_10) rfl ?_
    show Steps p.tables e below (T2.setTop (mkF m 11 #[.val (.ref r0), .val (.ref r1), .val (.double d2), .second, .val (.double d3), .second, .val (.double d4), .second, .val (.long q5), .second] [(.double d2), (.ref r0)])) _
    refine st11 _ ?_
    show Steps p.tables e below (T11.setTop (mkF m 14 #[.val (.ref r0), .val (.ref r1), .val (.double d2), .second, .val (.double d3), .second, .val (.double d4), .second, .val (.long q5), .second] [])) _
    refine XS.aloadN X11.here hx rfl (hb hby d6_14) rfl rfl ?_
    show Steps p.tables e below (T11.setTop (mkF m 15 #[.val (.ref r0), .val (.ref r1), .val (.double d2), .second, .val (.double d3), .second, .val (.double d4), .second, .val (.long q5), .second] [(.ref r0)])) _
    refine XS.dload X11.here hx rfl (hb hby d6_15) rfl ?_
    show Steps p.tables e below (T11.setTop (mkF m 17 #[.val (.ref r0), .val (.ref r1), .val (.double d2), .second, .val (.double d3), .second, .val (.double d4), .second, .val (.long q5), .second] [(.double d3), (.ref r0)])) _
    refine st20 _ ?_
    show Steps p.tables e below (T20.setTop (mkF m 20 #[.val (.ref r0), .val (.ref r1), .val (.double d2), .second, .val (.double d3), .second, .val (.double d4), .second, .val (.long q5), .second] [])) _
    refine XS.aloadN X20.here hx rfl (hb hby d6_20) rfl rfl ?_
    show Steps p.tables e below (T20.setTop (mkF m 21 #[.val (.ref r0), .val (.ref r1), .val (.double d2), .second, .val (.double d3), .second, .val (.double d4), .second, .val (.long q5), .second] [(.ref r0)])) _
    refine XS.dload X20.here hx rfl (hb hby d6_21) rfl ?_
    show Steps p.tables e below (T20.setTop (mkF m 23 #[.val (.ref r0), .val (.ref r1), .val (.double d2), .second, .val (.double d3), .second, .val (.double d4), .second, .val (.long q5), .second] [(.double d4), (.ref r0)])) _
    refine st29 _ ?_
    show Steps p.tables e below (T29.setTop (mkF m 26 #[.val (.ref r0), .val (.ref r1), .val (.double d2), .second, .val (.double d3), .second, .val (.double d4), .second, .val (.long q5), .second] [])) _
    refine XS.aloadN X29.here hx rfl (hb hby d6_26) rfl rfl ?_
    show Steps p.tables e below (T29.setTop (mkF m 27 #[.val (.ref r0), .val (.ref r1), .val (.double d2), .second, .val (.double d3), .second, .val (.double d4), .second, .val (.long q5), .second] [(.ref r0)])) _
    refine XS.lload X29.here hx rfl (hb hby d6_27) rfl ?_
    show Steps p.tables e below (T29.setTop (mkF m 29 #[.val (.ref r0), .val (.ref r1), .val (.double d2), .second, .val (.double d3), .second, .val (.double d4), .second, .val (.long q5), .second] [(.long q5), (.ref r0)])) _
    refine st38 _ ?_
    show Steps p.tables e below (T38.setTop (mkF m 32 #[.val (.ref r0), .val (.ref r1), .val (.double d2), .second, .val (.double d3), .second, .val (.double d4), .second, .val (.long q5), .second] [])) _
    exact X38.returnOut hx Bd.returns (hb hby d6_32) hr
  · show Q6 Z r0 r1 d2 d3 d4 q5 h0 n0 _ T38.heap _
    rw [e38]
    exact ⟨rfl, N38, kp46, f39, f40, f41, f42, f44⟩
theorem d8_0 : decode prog_41_method_4_code 0 = .ok (.aload_n 1, 1) := by decide +kernel
theorem d8_1 : decode prog_41_method_4_code 1 = .ok (.ifnull 44, 3) := by decide +kernel
theorem d8_45 : decode prog_41_method_4_code 45 = .ok (.iconst 1, 1) := by decide +kernel
theorem d8_46 : decode prog_41_method_4_code 46 = .ok (.goto 4, 3) := by decide +kernel
theorem d8_50 : decode prog_41_method_4_code 50 = .ok (.ireturn, 1) := by decide +kernel
def QPn (Z : State) (r0 : Addr) (h0 : Heap) (n0 : Nat) (v : Option Value) (h : Heap) (L : List Loc) : Prop := v = some (.int (1 : Int32)) ∧ Fr n0 L ∧ h = h0
theorem ef_rmPn (m : MethodId) (x0 : Addr) : entryFrame m #[(.ref x0), .null] 2 = mkF m 0 #[.val (.ref x0), .val .null] [] := by first | (simp [entryFrame, mkF, argsToLocals, Value.category]; done) | rfl
set_option maxRecDepth 65536 in
set_option maxHeartbeats 40000000 in
theorem rmPn (l : Launch) (Z : State) (a0 : Array Value) (hw : ∀ d ∈ tables_1, d.before a0 Z = true) (ws : List Jvm.Cond) (r0 : Addr) (h0 : Heap) (n0 : Nat) (Z0 : n0 ≤ h0.size) :
    MetFree l (⟨"com/example/nuthatch/nuthatch/planning/Placement", "precedes", "(Lcom/example/nuthatch/nuthatch/planning/Placement;)Z"⟩ : MethodName) (head1 (Jvm.Cond.code (⟨"com/example/nuthatch/nuthatch/planning/Placement", "precedes", "(Lcom/example/nuthatch/nuthatch/planning/Placement;)Z"⟩ : MethodName) prog_41_method_4_code 2 (some .boolean) :: ws) ({ frames := 0, cells := 0, slots := 0, locals := 0 } : Room)) (fun a U => a = #[(.ref r0), .null] ∧ Z.Warmed39 U.vm ∧ U.heap = h0) (fun _ _ _ _ _ => True) (fun _ U o U' => ∃ v L, o = .returned v ∧ QPn Z r0 h0 n0 v U'.heap L ∧ FrameEnd U o U' L ({ frames := 0, cells := 0, slots := 0, locals := 0 } : Room).cells ({ frames := 0, cells := 0, slots := 0, locals := 0 } : Room).slots) := by
  refine MetFree.of_bodySF (plainFor_of_name pnc_com_example_nuthatch_nuthatch_planning_Placement) hisR ?_
  intro p e s m args below meth c s₁ Bd hml0 hP hK
  obtain ⟨rfl, hZ, hh⟩ := hP
  have hx := Bd.exec
  have hby := Bd.bytes
  have hml : c.maxLocals = 2 := hml0
  have hown : s.vm.findClass "com/example/nuthatch/nuthatch/planning/Placement" = some m.cls := findClass_of_methodNamed Bd.named
  have hnm := (name_of_methodNamed Bd.named Bd.method).1
  have X0 : Stand p l e ({ frames := 0, cells := 0, slots := 0, locals := 0 } : Room) s m #[(.ref r0), .null] below meth c s₁ [] 0 0 := Stand.of_body Bd
  have e0 : s₁.heap = h0 := by rw [← hh, Bd.state]; rfl
  have N0 := Fr.nil n0
  have kp0 : Keep h0 h0 [] := Keep.refl _ _
  have G0 : ∀ t, Steps p.tables e below (s₁.setTop (mkF m 0 #[.val (.ref r0), .val .null] [])) t → Steps p.tables e below (s₁.setTop (entryFrame m #[(.ref r0), .null] 2)) t := fun t k => castTop (ef_rmPn m r0) k
  obtain ⟨fs, hr, hrun, hended, hW, hsame⟩ := X0.leave (v := some (.int (1 : Int32))) (fun h => by rw [Bd.returns] at h; cases h)
  refine ⟨_, _, G0 _ ?_, hrun, hended, _, _, rfl, ?_, ⟨_, rfl⟩, hW, hsame.mono (by decide) (by decide)⟩
  · skip
    show Steps p.tables e below (s₁.setTop (mkF m 0 #[.val (.ref r0), .val .null] [])) _
    refine XS.aloadN X0.here hx rfl (hb hby d8_0) rfl rfl ?_
    show Steps p.tables e below (s₁.setTop (mkF m 1 #[.val (.ref r0), .val .null] [.null])) _
    refine XS.ifnullYes X0.here hx rfl (pc0 := 1) (pc' := 45) rfl (hb hby d8_1) rfl (by decide) (by decide) ?_
    show Steps p.tables e below (s₁.setTop (mkF m 45 #[.val (.ref r0), .val .null] [])) _
    refine XS.iconst X0.here hx rfl (hb hby d8_45) ?_
    show Steps p.tables e below (s₁.setTop (mkF m 46 #[.val (.ref r0), .val .null] [(.int (1 : Int32))])) _
    refine XS.goto X0.here hx rfl (pc0 := 46) (pc' := 50) rfl (hb hby d8_46) (by decide) (by decide) ?_
    show Steps p.tables e below (s₁.setTop (mkF m 50 #[.val (.ref r0), .val .null] [(.int (1 : Int32))])) _
    exact retN X0 hx (t := .boolean) Bd.returns (by simp) (hb hby d8_50) hr
  · show QPn Z r0 h0 n0 _ s₁.heap _
    rw [e0]
    exact ⟨rfl, N0, rfl⟩
theorem d8_4 : decode prog_41_method_4_code 4 = .ok (.aload_n 0, 1) := by decide +kernel
theorem d8_5 : decode prog_41_method_4_code 5 = .ok (.getfield 13, 3) := by decide +kernel
theorem d8_8 : decode prog_41_method_4_code 8 = .ok (.aload_n 1, 1) := by decide +kernel
theorem d8_9 : decode prog_41_method_4_code 9 = .ok (.getfield 13, 3) := by decide +kernel
theorem d8_12 : decode prog_41_method_4_code 12 = .ok (.dcmp .g, 1) := by decide +kernel
theorem d8_13 : decode prog_41_method_4_code 13 = .ok (.ifCond .lt 32, 3) := by decide +kernel
theorem d8_16 : decode prog_41_method_4_code 16 = .ok (.aload_n 0, 1) := by decide +kernel
theorem d8_17 : decode prog_41_method_4_code 17 = .ok (.getfield 13, 3) := by decide +kernel
theorem d8_20 : decode prog_41_method_4_code 20 = .ok (.aload_n 1, 1) := by decide +kernel
theorem d8_21 : decode prog_41_method_4_code 21 = .ok (.getfield 13, 3) := by decide +kernel
theorem d8_24 : decode prog_41_method_4_code 24 = .ok (.dcmp .l, 1) := by decide +kernel
theorem d8_25 : decode prog_41_method_4_code 25 = .ok (.ifCond .ne 24, 3) := by decide +kernel
theorem d8_28 : decode prog_41_method_4_code 28 = .ok (.aload_n 0, 1) := by decide +kernel
theorem d8_29 : decode prog_41_method_4_code 29 = .ok (.getfield 7, 3) := by decide +kernel
theorem d8_32 : decode prog_41_method_4_code 32 = .ok (.getfield 27, 3) := by decide +kernel
theorem d8_35 : decode prog_41_method_4_code 35 = .ok (.aload_n 1, 1) := by decide +kernel
theorem d8_36 : decode prog_41_method_4_code 36 = .ok (.getfield 7, 3) := by decide +kernel
theorem d8_39 : decode prog_41_method_4_code 39 = .ok (.getfield 27, 3) := by decide +kernel
theorem d8_42 : decode prog_41_method_4_code 42 = .ok (.if_icmp .ge 7, 3) := by decide +kernel
theorem d8_49 : decode prog_41_method_4_code 49 = .ok (.iconst 0, 1) := by decide +kernel
def fpre (sa : Int32) (sb : Int32) (na : Int32) (nb : Int32) : Int32 := if (sa.toInt64) < (sb.toInt64) then ((1 : Int32)) else (if (sa.toInt64) = (sb.toInt64) then (if na < nb then ((1 : Int32)) else ((0 : Int32))) else ((0 : Int32)))
def QPr (Z : State) (r0 : Addr) (r1 : Addr) (v0 v1 : Addr) (sa sb na nb : Int32) (h0 : Heap) (n0 : Nat) (v : Option Value) (h : Heap) (L : List Loc) : Prop := v = some (.int (fpre sa sb na nb)) ∧ Fr n0 L ∧ h = h0
theorem ef_rmPr (m : MethodId) (x0 : Addr) (x1 : Addr) : entryFrame m #[(.ref x0), (.ref x1)] 2 = mkF m 0 #[.val (.ref x0), .val (.ref x1)] [] := by first | (simp [entryFrame, mkF, argsToLocals, Value.category]; done) | rfl
set_option maxRecDepth 65536 in
set_option maxHeartbeats 40000000 in
theorem rmPr (l : Launch) (Z : State) (a0 : Array Value) (hw : ∀ d ∈ tables_1, d.before a0 Z = true) (ws : List Jvm.Cond) (r0 : Addr) (r1 : Addr) (v0 v1 : Addr) (sa sb na nb : Int32) (h0 : Heap) (n0 : Nat) (Z0 : n0 ≤ h0.size) (Fs0 : Fld Z h0 r0 "com/example/nuthatch/nuthatch/planning/Placement" "start" "D" (.double (FP.i2d sa))) (Fs1 : Fld Z h0 r1 "com/example/nuthatch/nuthatch/planning/Placement" "start" "D" (.double (FP.i2d sb))) (Fv0 : Fld Z h0 r0 "com/example/nuthatch/nuthatch/planning/Placement" "vm" "Lcom/example/nuthatch/nuthatch/planning/PlannedVm;" (.ref v0)) (Fv1 : Fld Z h0 r1 "com/example/nuthatch/nuthatch/planning/Placement" "vm" "Lcom/example/nuthatch/nuthatch/planning/PlannedVm;" (.ref v1)) (Fn0 : Fld Z h0 v0 "com/example/nuthatch/nuthatch/planning/PlannedVm" "number" "I" (.int na)) (Fn1 : Fld Z h0 v1 "com/example/nuthatch/nuthatch/planning/PlannedVm" "number" "I" (.int nb)) :
    MetFree l (⟨"com/example/nuthatch/nuthatch/planning/Placement", "precedes", "(Lcom/example/nuthatch/nuthatch/planning/Placement;)Z"⟩ : MethodName) (head1 (Jvm.Cond.code (⟨"com/example/nuthatch/nuthatch/planning/Placement", "precedes", "(Lcom/example/nuthatch/nuthatch/planning/Placement;)Z"⟩ : MethodName) prog_41_method_4_code 2 (some .boolean) :: ws) ({ frames := 0, cells := 0, slots := 0, locals := 0 } : Room)) (fun a U => a = #[(.ref r0), (.ref r1)] ∧ Z.Warmed39 U.vm ∧ U.heap = h0) (fun _ _ _ _ _ => True) (fun _ U o U' => ∃ v L, o = .returned v ∧ QPr Z r0 r1 v0 v1 sa sb na nb h0 n0 v U'.heap L ∧ FrameEnd U o U' L ({ frames := 0, cells := 0, slots := 0, locals := 0 } : Room).cells ({ frames := 0, cells := 0, slots := 0, locals := 0 } : Room).slots) := by
  refine MetFree.of_bodySF (plainFor_of_name pnc_com_example_nuthatch_nuthatch_planning_Placement) hisR ?_
  intro p e s m args below meth c s₁ Bd hml0 hP hK
  obtain ⟨rfl, hZ, hh⟩ := hP
  have hx := Bd.exec
  have hby := Bd.bytes
  have hml : c.maxLocals = 2 := hml0
  have hown : s.vm.findClass "com/example/nuthatch/nuthatch/planning/Placement" = some m.cls := findClass_of_methodNamed Bd.named
  have hnm := (name_of_methodNamed Bd.named Bd.method).1
  have X0 : Stand p l e ({ frames := 0, cells := 0, slots := 0, locals := 0 } : Room) s m #[(.ref r0), (.ref r1)] below meth c s₁ [] 0 0 := Stand.of_body Bd
  have e0 : s₁.heap = h0 := by rw [← hh, Bd.state]; rfl
  have N0 := Fr.nil n0
  have kp0 : Keep h0 h0 [] := Keep.refl _ _
  have G0 : ∀ t, Steps p.tables e below (s₁.setTop (mkF m 0 #[.val (.ref r0), .val (.ref r1)] [])) t → Steps p.tables e below (s₁.setTop (entryFrame m #[(.ref r0), (.ref r1)] 2)) t := fun t k => castTop (ef_rmPr m r0 r1) k
  obtain ⟨T1, X1, e1, st1⟩ := getF X0 hx hZ hown (host := "") (Or.inl (hw _ (List.mem_of_getElem? (i := 59) rfl))) Via.refl e0 Fs0 (g := (mkF m 5 #[.val (.ref r0), .val (.ref r1)] [(.ref r0)])) rfl rfl (hb hby d8_5)
  obtain ⟨T2, X2, e2, st2⟩ := getF X1 hx hZ hown (host := "") (Or.inl (hw _ (List.mem_of_getElem? (i := 59) rfl))) Via.refl e1 Fs1 (g := (mkF m 9 #[.val (.ref r0), .val (.ref r1)] [(.ref r1), (.double (FP.i2d sa))])) rfl rfl (hb hby d8_9)
  have G3 : ∀ t, Steps p.tables e below (T2.setTop (mkF m 13 #[.val (.ref r0), .val (.ref r1)] [(.int (lcmpW (sa.toInt64) (sb.toInt64)))])) t → Steps p.tables e below (s₁.setTop (entryFrame m #[(.ref r0), (.ref r1)] 2)) t := by
    intro t kt
    refine G0 _ ?_
    show Steps p.tables e below (s₁.setTop (mkF m 0 #[.val (.ref r0), .val (.ref r1)] [])) _
    refine XS.aloadN X0.here hx rfl (hb hby d8_0) rfl rfl ?_
    show Steps p.tables e below (s₁.setTop (mkF m 1 #[.val (.ref r0), .val (.ref r1)] [(.ref r1)])) _
    refine XS.ifnullNo X0.here hx rfl (hb hby d8_1) rfl ?_
    show Steps p.tables e below (s₁.setTop (mkF m 4 #[.val (.ref r0), .val (.ref r1)] [])) _
    refine XS.aloadN X0.here hx rfl (hb hby d8_4) rfl rfl ?_
    show Steps p.tables e below (s₁.setTop (mkF m 5 #[.val (.ref r0), .val (.ref r1)] [(.ref r0)])) _
    refine st1 _ ?_
    show Steps p.tables e below (T1.setTop (mkF m 8 #[.val (.ref r0), .val (.ref r1)] [(.double (FP.i2d sa))])) _
    refine XS.aloadN X1.here hx rfl (hb hby d8_8) rfl rfl ?_
    show Steps p.tables e below (T1.setTop (mkF m 9 #[.val (.ref r0), .val (.ref r1)] [(.ref r1), (.double (FP.i2d sa))])) _
    refine st2 _ ?_
    show Steps p.tables e below (T2.setTop (mkF m 12 #[.val (.ref r0), .val (.ref r1)] [(.double (FP.i2d sb)), (.double (FP.i2d sa))])) _
    refine XS.dcmpS X2.here hx rfl (hb hby d8_12) rfl (own_dcmp sa sb _) ?_
    exact kt
  by_cases hc13_4 : (sa.toInt64) < (sb.toInt64)
  · skip
    obtain ⟨fs, hr, hrun, hended, hW, hsame⟩ := X2.leave (v := some (.int (1 : Int32))) (fun h => by rw [Bd.returns] at h; cases h)
    refine ⟨_, _, G3 _ ?_, hrun, hended, _, _, rfl, ?_, ⟨_, rfl⟩, hW, hsame.mono (by decide) (by decide)⟩
    · skip
      show Steps p.tables e below (T2.setTop (mkF m 13 #[.val (.ref r0), .val (.ref r1)] [(.int (lcmpW (sa.toInt64) (sb.toInt64)))])) _
      refine XS.ifYes X2.here hx rfl (pc0 := 13) (pc' := 45) rfl (hb hby d8_13) rfl ((if0 _ _).trans (tlt ((lw_lt _ _).mpr hc13_4)).1) (by decide) (by decide) ?_
      show Steps p.tables e below (T2.setTop (mkF m 45 #[.val (.ref r0), .val (.ref r1)] [])) _
      refine XS.iconst X2.here hx rfl (hb hby d8_45) ?_
      show Steps p.tables e below (T2.setTop (mkF m 46 #[.val (.ref r0), .val (.ref r1)] [(.int (1 : Int32))])) _
      refine XS.goto X2.here hx rfl (pc0 := 46) (pc' := 50) rfl (hb hby d8_46) (by decide) (by decide) ?_
      show Steps p.tables e below (T2.setTop (mkF m 50 #[.val (.ref r0), .val (.ref r1)] [(.int (1 : Int32))])) _
      exact retN X2 hx (t := .boolean) Bd.returns (by simp) (hb hby d8_50) hr
    · show QPr Z r0 r1 v0 v1 sa sb na nb h0 n0 _ T2.heap _
      rw [e2]
      exact ⟨by rw [fpre, if_pos hc13_4], N0, rfl⟩
  · skip
    obtain ⟨T5, X5, e5, st5⟩ := getF X2 hx hZ hown (host := "") (Or.inl (hw _ (List.mem_of_getElem? (i := 59) rfl))) Via.refl e2 Fs0 (g := (mkF m 17 #[.val (.ref r0), .val (.ref r1)] [(.ref r0)])) rfl rfl (hb hby d8_17)
    obtain ⟨T6, X6, e6, st6⟩ := getF X5 hx hZ hown (host := "") (Or.inl (hw _ (List.mem_of_getElem? (i := 59) rfl))) Via.refl e5 Fs1 (g := (mkF m 21 #[.val (.ref r0), .val (.ref r1)] [(.ref r1), (.double (FP.i2d sa))])) rfl rfl (hb hby d8_21)
    have G7 : ∀ t, Steps p.tables e below (T6.setTop (mkF m 25 #[.val (.ref r0), .val (.ref r1)] [(.int (lcmpW (sa.toInt64) (sb.toInt64)))])) t → Steps p.tables e below (s₁.setTop (entryFrame m #[(.ref r0), (.ref r1)] 2)) t := by
      intro t kt
      refine G3 _ ?_
      show Steps p.tables e below (T2.setTop (mkF m 13 #[.val (.ref r0), .val (.ref r1)] [(.int (lcmpW (sa.toInt64) (sb.toInt64)))])) _
      refine XS.ifNo X2.here hx rfl (hb hby d8_13) rfl ((if0 _ _).trans (flt (fun q => hc13_4 ((lw_lt _ _).mp q))).1) ?_
      show Steps p.tables e below (T2.setTop (mkF m 16 #[.val (.ref r0), .val (.ref r1)] [])) _
      refine XS.aloadN X2.here hx rfl (hb hby d8_16) rfl rfl ?_
      show Steps p.tables e below (T2.setTop (mkF m 17 #[.val (.ref r0), .val (.ref r1)] [(.ref r0)])) _
      refine st5 _ ?_
      show Steps p.tables e below (T5.setTop (mkF m 20 #[.val (.ref r0), .val (.ref r1)] [(.double (FP.i2d sa))])) _
      refine XS.aloadN X5.here hx rfl (hb hby d8_20) rfl rfl ?_
      show Steps p.tables e below (T5.setTop (mkF m 21 #[.val (.ref r0), .val (.ref r1)] [(.ref r1), (.double (FP.i2d sa))])) _
      refine st6 _ ?_
      show Steps p.tables e below (T6.setTop (mkF m 24 #[.val (.ref r0), .val (.ref r1)] [(.double (FP.i2d sb)), (.double (FP.i2d sa))])) _
      refine XS.dcmpS X6.here hx rfl (hb hby d8_24) rfl (own_dcmp sa sb _) ?_
      exact kt
    by_cases hc25_8 : (sa.toInt64) = (sb.toInt64)
    · skip
      obtain ⟨T9, X9, e9, st9⟩ := getF X6 hx hZ hown (host := "") (Or.inl (hw _ (List.mem_of_getElem? (i := 57) rfl))) Via.refl e6 Fv0 (g := (mkF m 29 #[.val (.ref r0), .val (.ref r1)] [(.ref r0)])) rfl rfl (hb hby d8_29)
      obtain ⟨T10, X10, e10, st10⟩ := getF X9 hx hZ hown (host := "") (Or.inl (hw _ (List.mem_of_getElem? (i := 73) rfl))) Via.refl e9 Fn0 (g := (mkF m 32 #[.val (.ref r0), .val (.ref r1)] [(.ref v0)])) rfl rfl (hb hby d8_32)
      obtain ⟨T11, X11, e11, st11⟩ := getF X10 hx hZ hown (host := "") (Or.inl (hw _ (List.mem_of_getElem? (i := 57) rfl))) Via.refl e10 Fv1 (g := (mkF m 36 #[.val (.ref r0), .val (.ref r1)] [(.ref r1), (.int na)])) rfl rfl (hb hby d8_36)
      obtain ⟨T12, X12, e12, st12⟩ := getF X11 hx hZ hown (host := "") (Or.inl (hw _ (List.mem_of_getElem? (i := 73) rfl))) Via.refl e11 Fn1 (g := (mkF m 39 #[.val (.ref r0), .val (.ref r1)] [(.ref v1), (.int na)])) rfl rfl (hb hby d8_39)
      have G13 : ∀ t, Steps p.tables e below (T12.setTop (mkF m 42 #[.val (.ref r0), .val (.ref r1)] [(.int nb), (.int na)])) t → Steps p.tables e below (s₁.setTop (entryFrame m #[(.ref r0), (.ref r1)] 2)) t := by
        intro t kt
        refine G7 _ ?_
        show Steps p.tables e below (T6.setTop (mkF m 25 #[.val (.ref r0), .val (.ref r1)] [(.int (lcmpW (sa.toInt64) (sb.toInt64)))])) _
        refine XS.ifNo X6.here hx rfl (hb hby d8_25) rfl ((if0 _ _).trans (teq ((lw_eq _ _).mpr hc25_8)).2) ?_
        show Steps p.tables e below (T6.setTop (mkF m 28 #[.val (.ref r0), .val (.ref r1)] [])) _
        refine XS.aloadN X6.here hx rfl (hb hby d8_28) rfl rfl ?_
        show Steps p.tables e below (T6.setTop (mkF m 29 #[.val (.ref r0), .val (.ref r1)] [(.ref r0)])) _
        refine st9 _ ?_
        show Steps p.tables e below (T9.setTop (mkF m 32 #[.val (.ref r0), .val (.ref r1)] [(.ref v0)])) _
        refine st10 _ ?_
        show Steps p.tables e below (T10.setTop (mkF m 35 #[.val (.ref r0), .val (.ref r1)] [(.int na)])) _
        refine XS.aloadN X10.here hx rfl (hb hby d8_35) rfl rfl ?_
        show Steps p.tables e below (T10.setTop (mkF m 36 #[.val (.ref r0), .val (.ref r1)] [(.ref r1), (.int na)])) _
        refine st11 _ ?_
        show Steps p.tables e below (T11.setTop (mkF m 39 #[.val (.ref r0), .val (.ref r1)] [(.ref v1), (.int na)])) _
        refine st12 _ ?_
        exact kt
      by_cases hc42_14 : na < nb
      · skip
        obtain ⟨fs, hr, hrun, hended, hW, hsame⟩ := X12.leave (v := some (.int (1 : Int32))) (fun h => by rw [Bd.returns] at h; cases h)
        refine ⟨_, _, G13 _ ?_, hrun, hended, _, _, rfl, ?_, ⟨_, rfl⟩, hW, hsame.mono (by decide) (by decide)⟩
        · skip
          show Steps p.tables e below (T12.setTop (mkF m 42 #[.val (.ref r0), .val (.ref r1)] [(.int nb), (.int na)])) _
          refine XS.icmpNo X12.here hx rfl (hb hby d8_42) rfl (tlt hc42_14).2.1 ?_
          show Steps p.tables e below (T12.setTop (mkF m 45 #[.val (.ref r0), .val (.ref r1)] [])) _
          refine XS.iconst X12.here hx rfl (hb hby d8_45) ?_
          show Steps p.tables e below (T12.setTop (mkF m 46 #[.val (.ref r0), .val (.ref r1)] [(.int (1 : Int32))])) _
          refine XS.goto X12.here hx rfl (pc0 := 46) (pc' := 50) rfl (hb hby d8_46) (by decide) (by decide) ?_
          show Steps p.tables e below (T12.setTop (mkF m 50 #[.val (.ref r0), .val (.ref r1)] [(.int (1 : Int32))])) _
          exact retN X12 hx (t := .boolean) Bd.returns (by simp) (hb hby d8_50) hr
        · show QPr Z r0 r1 v0 v1 sa sb na nb h0 n0 _ T12.heap _
          rw [e12]
          exact ⟨by rw [fpre, if_neg hc13_4, if_pos hc25_8, if_pos hc42_14], N0, rfl⟩
      · skip
        obtain ⟨fs, hr, hrun, hended, hW, hsame⟩ := X12.leave (v := some (.int (0 : Int32))) (fun h => by rw [Bd.returns] at h; cases h)
        refine ⟨_, _, G13 _ ?_, hrun, hended, _, _, rfl, ?_, ⟨_, rfl⟩, hW, hsame.mono (by decide) (by decide)⟩
        · skip
          show Steps p.tables e below (T12.setTop (mkF m 42 #[.val (.ref r0), .val (.ref r1)] [(.int nb), (.int na)])) _
          refine XS.icmpYes X12.here hx rfl (pc0 := 42) (pc' := 49) rfl (hb hby d8_42) rfl (flt hc42_14).2.1 (by decide) (by decide) ?_
          show Steps p.tables e below (T12.setTop (mkF m 49 #[.val (.ref r0), .val (.ref r1)] [])) _
          refine XS.iconst X12.here hx rfl (hb hby d8_49) ?_
          show Steps p.tables e below (T12.setTop (mkF m 50 #[.val (.ref r0), .val (.ref r1)] [(.int (0 : Int32))])) _
          exact retN X12 hx (t := .boolean) Bd.returns (by simp) (hb hby d8_50) hr
        · show QPr Z r0 r1 v0 v1 sa sb na nb h0 n0 _ T12.heap _
          rw [e12]
          exact ⟨by rw [fpre, if_neg hc13_4, if_pos hc25_8, if_neg hc42_14], N0, rfl⟩
    · skip
      obtain ⟨fs, hr, hrun, hended, hW, hsame⟩ := X6.leave (v := some (.int (0 : Int32))) (fun h => by rw [Bd.returns] at h; cases h)
      refine ⟨_, _, G7 _ ?_, hrun, hended, _, _, rfl, ?_, ⟨_, rfl⟩, hW, hsame.mono (by decide) (by decide)⟩
      · skip
        show Steps p.tables e below (T6.setTop (mkF m 25 #[.val (.ref r0), .val (.ref r1)] [(.int (lcmpW (sa.toInt64) (sb.toInt64)))])) _
        refine XS.ifYes X6.here hx rfl (pc0 := 25) (pc' := 49) rfl (hb hby d8_25) rfl ((if0 _ _).trans (feq (fun q => hc25_8 ((lw_eq _ _).mp q))).2) (by decide) (by decide) ?_
        show Steps p.tables e below (T6.setTop (mkF m 49 #[.val (.ref r0), .val (.ref r1)] [])) _
        refine XS.iconst X6.here hx rfl (hb hby d8_49) ?_
        show Steps p.tables e below (T6.setTop (mkF m 50 #[.val (.ref r0), .val (.ref r1)] [(.int (0 : Int32))])) _
        exact retN X6 hx (t := .boolean) Bd.returns (by simp) (hb hby d8_50) hr
      · show QPr Z r0 r1 v0 v1 sa sb na nb h0 n0 _ T6.heap _
        rw [e6]
        exact ⟨by rw [fpre, if_neg hc13_4, if_neg hc25_8], N0, rfl⟩
theorem own_pre (sa sb na nb e : Int32) (he : e = (if sa < sb then (1 : Int32) else (if sb < sa then (0 : Int32) else (if na < nb then (1 : Int32) else (0 : Int32))))) : fpre sa sb na nb = e := by
  rw [he, fpre]
  simp only [own_l64, own_e64]
  rcases Int.lt_trichotomy sa.toInt sb.toInt with h | h | h
  · have h1 : sa < sb := Int32.lt_iff_toInt_lt.mpr h
    rw [if_pos h1, if_pos h1]
  · obtain rfl := Int32.toInt_inj.mp h
    have h2 : ¬ sa < sa := fun q => by rw [Int32.lt_iff_toInt_lt] at q; omega
    rw [if_neg h2, if_pos rfl, if_neg h2, if_neg h2]
  · have h1 : sb < sa := Int32.lt_iff_toInt_lt.mpr h
    have h2 : ¬ sa < sb := fun q => by rw [Int32.lt_iff_toInt_lt] at q; omega
    have h3 : ¬ sa = sb := fun q => by rw [q] at h; omega
    rw [if_neg h2, if_neg h3, if_neg h2, if_pos h1]
theorem pd_1 : parseMethodDescriptor "(Lcom/example/nuthatch/nuthatch/planning/VmTerms;ILcom/example/nuthatch/nuthatch/planning/FreeTime;Lcom/example/nuthatch/nuthatch/planning/PlannedCache;)V" = some ⟨[(.object "com/example/nuthatch/nuthatch/planning/VmTerms"), .int, (.object "com/example/nuthatch/nuthatch/planning/FreeTime"), (.object "com/example/nuthatch/nuthatch/planning/PlannedCache")], none⟩ := by decide +kernel
theorem pd_2 : parseMethodDescriptor "(Lcom/example/nuthatch/nuthatch/planning/PlannedVm;DDDJ)V" = some ⟨[(.object "com/example/nuthatch/nuthatch/planning/PlannedVm"), .double, .double, .double, .long], none⟩ := by decide +kernel
theorem pd_3 : parseMethodDescriptor "(Lcom/example/nuthatch/nuthatch/planning/Placement;)Z" = some ⟨[(.object "com/example/nuthatch/nuthatch/planning/Placement")], some .boolean⟩ := by decide +kernel
def Q0 (Z : State) (p0 : Int32) (p1 : Int32) (p2 : Int32) (p3 : Int32) (p4 : Int32) (q5 : Int64) (dca : Addr) (h0 : Heap) (n0 : Nat) (v : Option Value) (h : Heap) (L : List Loc) : Prop := v = some (.int (1 : Int32)) ∧ Fr n0 L
theorem ef_rm0 (m : MethodId) (x0 : Int32) (x1 : Int32) (x2 : Int32) (x3 : Int32) (x4 : Int32) (x5 : Int64) : entryFrame m #[(.int x0), (.int x1), (.int x2), (.int x3), (.int x4), (.long x5)] maxLocals = mkF m 0 #[.val (.int x0), .val (.int x1), .val (.int x2), .val (.int x3), .val (.int x4), .val (.long x5), .second, .unset, .unset, .unset, .unset, .unset, .unset, .unset, .unset, .unset] [] := by first | (simp [entryFrame, mkF, argsToLocals, Value.category, maxLocals]; done) | rfl
theorem pnc_com_example_nuthatch_nuthatch_planning_PlacementPrecedesPinLaw : plainName "com/example/nuthatch/nuthatch/planning/PlacementPrecedesPinLaw" = true := by first | (simp [plainName, overriddenIn]; done) | decide +kernel
set_option maxRecDepth 65536 in
set_option maxHeartbeats 40000000 in
theorem rm0 (l : Launch) (Z : State) (a0 : Array Value) (hw : ∀ d ∈ tables_1, d.before a0 Z = true) (ws : List Jvm.Cond) (p0 : Int32) (p1 : Int32) (p2 : Int32) (p3 : Int32) (p4 : Int32) (q5 : Int64) (dca : Addr) (h0 : Heap) (n0 : Nat) (Z0 : n0 ≤ h0.size) (O0 : Old Z n0 h0) (SD : Sta Z Z.heap "java/util/ArrayList" "DEFAULTCAPACITY_EMPTY_ELEMENTDATA" "[Ljava/lang/Object;" (.ref dca)) :
    MetFree l x (head1 (Jvm.Cond.code x code maxLocals ret :: ws) room_1) (fun a U => a = #[(.int p0), (.int p1), (.int p2), (.int p3), (.int p4), (.long q5)] ∧ Z.Warmed39 U.vm ∧ U.heap = h0) (fun _ _ _ _ _ => True) (fun _ U o U' => ∃ v L, o = .returned v ∧ Q0 Z p0 p1 p2 p3 p4 q5 dca h0 n0 v U'.heap L ∧ FrameEnd U o U' L room_1.cells room_1.slots) := by
  refine MetFree.of_bodySF (plainFor_of_name pnc_com_example_nuthatch_nuthatch_planning_PlacementPrecedesPinLaw) hisR ?_
  intro p e s m args below meth c s₁ Bd hml0 hP hK
  obtain ⟨rfl, hZ, hh⟩ := hP
  have hx := Bd.exec
  have hby := Bd.bytes
  have hml : c.maxLocals = 16 := hml0
  have hown : s.vm.findClass "com/example/nuthatch/nuthatch/planning/PlacementPrecedesPinLaw" = some m.cls := findClass_of_methodNamed Bd.named
  have hnm := (name_of_methodNamed Bd.named Bd.method).1
  have X0 : Stand p l e room_1 s m #[(.int p0), (.int p1), (.int p2), (.int p3), (.int p4), (.long q5)] below meth c s₁ [] 0 0 := Stand.of_body Bd
  have e0 : s₁.heap = h0 := by rw [← hh, Bd.state]; rfl
  have N0 := Fr.nil n0
  have kp0 : Keep h0 h0 [] := Keep.refl _ _
  have G0 : ∀ t, Steps p.tables e below (s₁.setTop (mkF m 0 #[.val (.int p0), .val (.int p1), .val (.int p2), .val (.int p3), .val (.int p4), .val (.long q5), .second, .unset, .unset, .unset, .unset, .unset, .unset, .unset, .unset, .unset] [])) t → Steps p.tables e below (s₁.setTop (entryFrame m #[(.int p0), (.int p1), (.int p2), (.int p3), (.int p4), (.long q5)] maxLocals)) t := fun t k => castTop (ef_rm0 m p0 p1 p2 p3 p4 q5) k
  have G1 : ∀ t, Steps p.tables e below (s₁.setTop (mkF m 4 #[.val (.int p0), .val (.int p1), .val (.int p2), .val (.int p3), .val (.int p4), .val (.long q5), .second, .unset, .unset, .unset, .unset, .unset, .unset, .unset, .unset, .unset] [(.int (p4 &&& (1 : Int32)))])) t → Steps p.tables e below (s₁.setTop (entryFrame m #[(.int p0), (.int p1), (.int p2), (.int p3), (.int p4), (.long q5)] maxLocals)) t := by
    intro t kt
    refine G0 _ ?_
    show Steps p.tables e below (s₁.setTop (mkF m 0 #[.val (.int p0), .val (.int p1), .val (.int p2), .val (.int p3), .val (.int p4), .val (.long q5), .second, .unset, .unset, .unset, .unset, .unset, .unset, .unset, .unset, .unset] [])) _
    refine XS.iload X0.here hx rfl (hb hby at_0) rfl ?_
    show Steps p.tables e below (s₁.setTop (mkF m 2 #[.val (.int p0), .val (.int p1), .val (.int p2), .val (.int p3), .val (.int p4), .val (.long q5), .second, .unset, .unset, .unset, .unset, .unset, .unset, .unset, .unset, .unset] [(.int p4)])) _
    refine XS.iconst X0.here hx rfl (hb hby at_2) ?_
    show Steps p.tables e below (s₁.setTop (mkF m 3 #[.val (.int p0), .val (.int p1), .val (.int p2), .val (.int p3), .val (.int p4), .val (.long q5), .second, .unset, .unset, .unset, .unset, .unset, .unset, .unset, .unset, .unset] [(.int (1 : Int32)), (.int p4)])) _
    refine XS.iand X0.here hx rfl (hb hby at_3) rfl ?_
    exact kt
  obtain ⟨j2, hj2⟩ : ∃ z : Int32, z = (if (p4 &&& (1 : Int32)) = (0 : Int32) then (0 : Int32) else (1 : Int32)) := ⟨_, rfl⟩
  have G3 : ∀ t, Steps p.tables e below (s₁.setTop (mkF m 12 #[.val (.int p0), .val (.int p1), .val (.int p2), .val (.int p3), .val (.int p4), .val (.long q5), .second, .unset, .unset, .unset, .unset, .unset, .unset, .unset, .unset, .unset] [(.int j2)])) t → Steps p.tables e below (s₁.setTop (entryFrame m #[(.int p0), (.int p1), (.int p2), (.int p3), (.int p4), (.long q5)] maxLocals)) t := by
    intro t kt
    by_cases hc4_4 : (p4 &&& (1 : Int32)) = (0 : Int32)
    · skip
      rw [show j2 = (0 : Int32) from by rw [hj2, if_pos hc4_4]] at kt
      refine G1 _ ?_
      show Steps p.tables e below (s₁.setTop (mkF m 4 #[.val (.int p0), .val (.int p1), .val (.int p2), .val (.int p3), .val (.int p4), .val (.long q5), .second, .unset, .unset, .unset, .unset, .unset, .unset, .unset, .unset, .unset] [(.int (p4 &&& (1 : Int32)))])) _
      refine XS.ifYes X0.here hx rfl (pc0 := 4) (pc' := 11) rfl (hb hby at_4) rfl ((if0 _ _).trans (teq hc4_4).1) (by decide) (by decide) ?_
      show Steps p.tables e below (s₁.setTop (mkF m 11 #[.val (.int p0), .val (.int p1), .val (.int p2), .val (.int p3), .val (.int p4), .val (.long q5), .second, .unset, .unset, .unset, .unset, .unset, .unset, .unset, .unset, .unset] [])) _
      refine XS.iconst X0.here hx rfl (hb hby at_11) ?_
      exact kt
    · skip
      rw [show j2 = (1 : Int32) from by rw [hj2, if_neg hc4_4]] at kt
      refine G1 _ ?_
      show Steps p.tables e below (s₁.setTop (mkF m 4 #[.val (.int p0), .val (.int p1), .val (.int p2), .val (.int p3), .val (.int p4), .val (.long q5), .second, .unset, .unset, .unset, .unset, .unset, .unset, .unset, .unset, .unset] [(.int (p4 &&& (1 : Int32)))])) _
      refine XS.ifNo X0.here hx rfl (hb hby at_4) rfl ((if0 _ _).trans (feq hc4_4).1) ?_
      show Steps p.tables e below (s₁.setTop (mkF m 7 #[.val (.int p0), .val (.int p1), .val (.int p2), .val (.int p3), .val (.int p4), .val (.long q5), .second, .unset, .unset, .unset, .unset, .unset, .unset, .unset, .unset, .unset] [])) _
      refine XS.iconst X0.here hx rfl (hb hby at_7) ?_
      show Steps p.tables e below (s₁.setTop (mkF m 8 #[.val (.int p0), .val (.int p1), .val (.int p2), .val (.int p3), .val (.int p4), .val (.long q5), .second, .unset, .unset, .unset, .unset, .unset, .unset, .unset, .unset, .unset] [(.int (1 : Int32))])) _
      refine XS.goto X0.here hx rfl (pc0 := 8) (pc' := 12) rfl (hb hby at_8) (by decide) (by decide) ?_
      exact kt
  have G5 : ∀ t, Steps p.tables e below (s₁.setTop (mkF m 18 #[.val (.int p0), .val (.int p1), .val (.int p2), .val (.int p3), .val (.int p4), .val (.long q5), .second, .val (.int j2), .unset, .unset, .unset, .unset, .unset, .unset, .unset, .unset] [(.int (p4 &&& (2 : Int32)))])) t → Steps p.tables e below (s₁.setTop (entryFrame m #[(.int p0), (.int p1), (.int p2), (.int p3), (.int p4), (.long q5)] maxLocals)) t := by
    intro t kt
    refine G3 _ ?_
    show Steps p.tables e below (s₁.setTop (mkF m 12 #[.val (.int p0), .val (.int p1), .val (.int p2), .val (.int p3), .val (.int p4), .val (.long q5), .second, .unset, .unset, .unset, .unset, .unset, .unset, .unset, .unset, .unset] [(.int j2)])) _
    refine XS.istore X0.here hx rfl (hb hby at_12) rfl (l' := #[.val (.int p0), .val (.int p1), .val (.int p2), .val (.int p3), .val (.int p4), .val (.long q5), .second, .val (.int j2), .unset, .unset, .unset, .unset, .unset, .unset, .unset, .unset]) rfl ?_
    show Steps p.tables e below (s₁.setTop (mkF m 14 #[.val (.int p0), .val (.int p1), .val (.int p2), .val (.int p3), .val (.int p4), .val (.long q5), .second, .val (.int j2), .unset, .unset, .unset, .unset, .unset, .unset, .unset, .unset] [])) _
    refine XS.iload X0.here hx rfl (hb hby at_14) rfl ?_
    show Steps p.tables e below (s₁.setTop (mkF m 16 #[.val (.int p0), .val (.int p1), .val (.int p2), .val (.int p3), .val (.int p4), .val (.long q5), .second, .val (.int j2), .unset, .unset, .unset, .unset, .unset, .unset, .unset, .unset] [(.int p4)])) _
    refine XS.iconst X0.here hx rfl (hb hby at_16) ?_
    show Steps p.tables e below (s₁.setTop (mkF m 17 #[.val (.int p0), .val (.int p1), .val (.int p2), .val (.int p3), .val (.int p4), .val (.long q5), .second, .val (.int j2), .unset, .unset, .unset, .unset, .unset, .unset, .unset, .unset] [(.int (2 : Int32)), (.int p4)])) _
    refine XS.iand X0.here hx rfl (hb hby at_17) rfl ?_
    exact kt
  obtain ⟨j6, hj6⟩ : ∃ z : Int32, z = (if (p4 &&& (2 : Int32)) = (0 : Int32) then p1 else p0) := ⟨_, rfl⟩
  have G7 : ∀ t, Steps p.tables e below (s₁.setTop (mkF m 26 #[.val (.int p0), .val (.int p1), .val (.int p2), .val (.int p3), .val (.int p4), .val (.long q5), .second, .val (.int j2), .unset, .unset, .unset, .unset, .unset, .unset, .unset, .unset] [(.int j6)])) t → Steps p.tables e below (s₁.setTop (entryFrame m #[(.int p0), (.int p1), (.int p2), (.int p3), (.int p4), (.long q5)] maxLocals)) t := by
    intro t kt
    by_cases hc18_8 : (p4 &&& (2 : Int32)) = (0 : Int32)
    · skip
      rw [show j6 = p1 from by rw [hj6, if_pos hc18_8]] at kt
      refine G5 _ ?_
      show Steps p.tables e below (s₁.setTop (mkF m 18 #[.val (.int p0), .val (.int p1), .val (.int p2), .val (.int p3), .val (.int p4), .val (.long q5), .second, .val (.int j2), .unset, .unset, .unset, .unset, .unset, .unset, .unset, .unset] [(.int (p4 &&& (2 : Int32)))])) _
      refine XS.ifYes X0.here hx rfl (pc0 := 18) (pc' := 25) rfl (hb hby at_18) rfl ((if0 _ _).trans (teq hc18_8).1) (by decide) (by decide) ?_
      show Steps p.tables e below (s₁.setTop (mkF m 25 #[.val (.int p0), .val (.int p1), .val (.int p2), .val (.int p3), .val (.int p4), .val (.long q5), .second, .val (.int j2), .unset, .unset, .unset, .unset, .unset, .unset, .unset, .unset] [])) _
      refine XS.iloadN X0.here hx rfl (hb hby at_25) rfl ?_
      exact kt
    · skip
      rw [show j6 = p0 from by rw [hj6, if_neg hc18_8]] at kt
      refine G5 _ ?_
      show Steps p.tables e below (s₁.setTop (mkF m 18 #[.val (.int p0), .val (.int p1), .val (.int p2), .val (.int p3), .val (.int p4), .val (.long q5), .second, .val (.int j2), .unset, .unset, .unset, .unset, .unset, .unset, .unset, .unset] [(.int (p4 &&& (2 : Int32)))])) _
      refine XS.ifNo X0.here hx rfl (hb hby at_18) rfl ((if0 _ _).trans (feq hc18_8).1) ?_
      show Steps p.tables e below (s₁.setTop (mkF m 21 #[.val (.int p0), .val (.int p1), .val (.int p2), .val (.int p3), .val (.int p4), .val (.long q5), .second, .val (.int j2), .unset, .unset, .unset, .unset, .unset, .unset, .unset, .unset] [])) _
      refine XS.iloadN X0.here hx rfl (hb hby at_21) rfl ?_
      show Steps p.tables e below (s₁.setTop (mkF m 22 #[.val (.int p0), .val (.int p1), .val (.int p2), .val (.int p3), .val (.int p4), .val (.long q5), .second, .val (.int j2), .unset, .unset, .unset, .unset, .unset, .unset, .unset, .unset] [(.int p0)])) _
      refine XS.goto X0.here hx rfl (pc0 := 22) (pc' := 26) rfl (hb hby at_22) (by decide) (by decide) ?_
      exact kt
  have G9 : ∀ t, Steps p.tables e below (s₁.setTop (mkF m 32 #[.val (.int p0), .val (.int p1), .val (.int p2), .val (.int p3), .val (.int p4), .val (.long q5), .second, .val (.int j2), .val (.int j6), .unset, .unset, .unset, .unset, .unset, .unset, .unset] [(.int (p4 &&& (4 : Int32)))])) t → Steps p.tables e below (s₁.setTop (entryFrame m #[(.int p0), (.int p1), (.int p2), (.int p3), (.int p4), (.long q5)] maxLocals)) t := by
    intro t kt
    refine G7 _ ?_
    show Steps p.tables e below (s₁.setTop (mkF m 26 #[.val (.int p0), .val (.int p1), .val (.int p2), .val (.int p3), .val (.int p4), .val (.long q5), .second, .val (.int j2), .unset, .unset, .unset, .unset, .unset, .unset, .unset, .unset] [(.int j6)])) _
    refine XS.istore X0.here hx rfl (hb hby at_26) rfl (l' := #[.val (.int p0), .val (.int p1), .val (.int p2), .val (.int p3), .val (.int p4), .val (.long q5), .second, .val (.int j2), .val (.int j6), .unset, .unset, .unset, .unset, .unset, .unset, .unset]) rfl ?_
    show Steps p.tables e below (s₁.setTop (mkF m 28 #[.val (.int p0), .val (.int p1), .val (.int p2), .val (.int p3), .val (.int p4), .val (.long q5), .second, .val (.int j2), .val (.int j6), .unset, .unset, .unset, .unset, .unset, .unset, .unset] [])) _
    refine XS.iload X0.here hx rfl (hb hby at_28) rfl ?_
    show Steps p.tables e below (s₁.setTop (mkF m 30 #[.val (.int p0), .val (.int p1), .val (.int p2), .val (.int p3), .val (.int p4), .val (.long q5), .second, .val (.int j2), .val (.int j6), .unset, .unset, .unset, .unset, .unset, .unset, .unset] [(.int p4)])) _
    refine XS.iconst X0.here hx rfl (hb hby at_30) ?_
    show Steps p.tables e below (s₁.setTop (mkF m 31 #[.val (.int p0), .val (.int p1), .val (.int p2), .val (.int p3), .val (.int p4), .val (.long q5), .second, .val (.int j2), .val (.int j6), .unset, .unset, .unset, .unset, .unset, .unset, .unset] [(.int (4 : Int32)), (.int p4)])) _
    refine XS.iand X0.here hx rfl (hb hby at_31) rfl ?_
    exact kt
  obtain ⟨j10, hj10⟩ : ∃ z : Int32, z = (if (p4 &&& (4 : Int32)) = (0 : Int32) then p3 else p2) := ⟨_, rfl⟩
  have G11 : ∀ t, Steps p.tables e below (s₁.setTop (mkF m 40 #[.val (.int p0), .val (.int p1), .val (.int p2), .val (.int p3), .val (.int p4), .val (.long q5), .second, .val (.int j2), .val (.int j6), .unset, .unset, .unset, .unset, .unset, .unset, .unset] [(.int j10)])) t → Steps p.tables e below (s₁.setTop (entryFrame m #[(.int p0), (.int p1), (.int p2), (.int p3), (.int p4), (.long q5)] maxLocals)) t := by
    intro t kt
    by_cases hc32_12 : (p4 &&& (4 : Int32)) = (0 : Int32)
    · skip
      rw [show j10 = p3 from by rw [hj10, if_pos hc32_12]] at kt
      refine G9 _ ?_
      show Steps p.tables e below (s₁.setTop (mkF m 32 #[.val (.int p0), .val (.int p1), .val (.int p2), .val (.int p3), .val (.int p4), .val (.long q5), .second, .val (.int j2), .val (.int j6), .unset, .unset, .unset, .unset, .unset, .unset, .unset] [(.int (p4 &&& (4 : Int32)))])) _
      refine XS.ifYes X0.here hx rfl (pc0 := 32) (pc' := 39) rfl (hb hby at_32) rfl ((if0 _ _).trans (teq hc32_12).1) (by decide) (by decide) ?_
      show Steps p.tables e below (s₁.setTop (mkF m 39 #[.val (.int p0), .val (.int p1), .val (.int p2), .val (.int p3), .val (.int p4), .val (.long q5), .second, .val (.int j2), .val (.int j6), .unset, .unset, .unset, .unset, .unset, .unset, .unset] [])) _
      refine XS.iloadN X0.here hx rfl (hb hby at_39) rfl ?_
      exact kt
    · skip
      rw [show j10 = p2 from by rw [hj10, if_neg hc32_12]] at kt
      refine G9 _ ?_
      show Steps p.tables e below (s₁.setTop (mkF m 32 #[.val (.int p0), .val (.int p1), .val (.int p2), .val (.int p3), .val (.int p4), .val (.long q5), .second, .val (.int j2), .val (.int j6), .unset, .unset, .unset, .unset, .unset, .unset, .unset] [(.int (p4 &&& (4 : Int32)))])) _
      refine XS.ifNo X0.here hx rfl (hb hby at_32) rfl ((if0 _ _).trans (feq hc32_12).1) ?_
      show Steps p.tables e below (s₁.setTop (mkF m 35 #[.val (.int p0), .val (.int p1), .val (.int p2), .val (.int p3), .val (.int p4), .val (.long q5), .second, .val (.int j2), .val (.int j6), .unset, .unset, .unset, .unset, .unset, .unset, .unset] [])) _
      refine XS.iloadN X0.here hx rfl (hb hby at_35) rfl ?_
      show Steps p.tables e below (s₁.setTop (mkF m 36 #[.val (.int p0), .val (.int p1), .val (.int p2), .val (.int p3), .val (.int p4), .val (.long q5), .second, .val (.int j2), .val (.int j6), .unset, .unset, .unset, .unset, .unset, .unset, .unset] [(.int p2)])) _
      refine XS.goto X0.here hx rfl (pc0 := 36) (pc' := 40) rfl (hb hby at_36) (by decide) (by decide) ?_
      exact kt
  obtain ⟨T13, h13, X13, e13, E13, A13, D13, -, st13⟩ := newO X0 hx hZ hown (hw _ (List.mem_of_getElem? (i := 0) rfl)) (hw _ (List.mem_of_getElem? (i := 1) rfl)) (hw _ (List.mem_of_getElem? (i := 2) rfl)) e0 (g := (mkF m 48 #[.val (.int p0), .val (.int p1), .val (.int p2), .val (.int p3), .val (.int p4), .val (.long q5), .second, .val (.int j2), .val (.int j6), .val (.int j10), .val (.int (p4 >>> ((3 : Int32) &&& 31))), .unset, .unset, .unset, .unset, .unset] [])) rfl (hb hby at_48) (by decide) (by decide)
  obtain ⟨b13, g13⟩ : ∃ z, z = h0.size := ⟨_, rfl⟩
  rw [← g13] at A13 D13 st13
  have g_b13 : n0 ≤ b13 := Nat.le_trans Z0 (Nat.le_of_eq g13.symm)
  have sz_b13 : h0.size ≤ b13 := Nat.le_trans kp0.1 (Nat.le_of_eq g13.symm)
  have f14 : Old Z n0 h13 := O0.ext E13
  have z15 : n0 ≤ h13.size := Nat.le_trans Z0 E13.1
  have kp16 : Keep h0 h13 [] := kp0.ext E13
  have f17 : Fld Z h13 b13 "com/example/nuthatch/nuthatch/planning/PlannedVm" "slots" "Ljava/util/List;" .null := D13 (Or.inr (hw _ (List.mem_of_getElem? (i := 34) rfl))) (ty := (.object "java/util/List")) (by decide)
  have f18 : Fld Z h13 b13 "com/example/nuthatch/nuthatch/planning/PlannedVm" "gaps" "Ljava/util/List;" .null := D13 (Or.inr (hw _ (List.mem_of_getElem? (i := 36) rfl))) (ty := (.object "java/util/List")) (by decide)
  have f19 : Fld Z h13 b13 "com/example/nuthatch/nuthatch/planning/PlannedVm" "terms" "Lcom/example/nuthatch/nuthatch/planning/VmTerms;" .null := D13 (Or.inr (hw _ (List.mem_of_getElem? (i := 38) rfl))) (ty := (.object "com/example/nuthatch/nuthatch/planning/VmTerms")) (by decide)
  have f20 : Fld Z h13 b13 "com/example/nuthatch/nuthatch/planning/PlannedVm" "number" "I" (.int (0 : Int32)) := D13 (Or.inr (hw _ (List.mem_of_getElem? (i := 40) rfl))) (ty := .int) (by decide)
  have f21 : Fld Z h13 b13 "com/example/nuthatch/nuthatch/planning/PlannedVm" "free" "Lcom/example/nuthatch/nuthatch/planning/FreeTime;" .null := D13 (Or.inr (hw _ (List.mem_of_getElem? (i := 42) rfl))) (ty := (.object "com/example/nuthatch/nuthatch/planning/FreeTime")) (by decide)
  have f22 : Fld Z h13 b13 "com/example/nuthatch/nuthatch/planning/PlannedVm" "cache" "Lcom/example/nuthatch/nuthatch/planning/PlannedCache;" .null := D13 (Or.inr (hw _ (List.mem_of_getElem? (i := 44) rfl))) (ty := (.object "com/example/nuthatch/nuthatch/planning/PlannedCache")) (by decide)
  obtain ⟨_, _, ⟨T23, L23, k23, n23⟩, -, X23, ⟨Lc23, hQ23, l23, y23, z23⟩, st23⟩ := X13.specialBack hx (y := (⟨"com/example/nuthatch/nuthatch/planning/PlannedVm", "<init>", "(Lcom/example/nuthatch/nuthatch/planning/VmTerms;ILcom/example/nuthatch/nuthatch/planning/FreeTime;Lcom/example/nuthatch/nuthatch/planning/PlannedCache;)V"⟩ : MethodName)) rfl hown (mvT hZ (hw _ (List.mem_of_getElem? (i := 3) rfl))) (mvT hZ (hw _ (List.mem_of_getElem? (i := 4) rfl))) (mvT hZ (hw _ (List.mem_of_getElem? (i := 5) rfl))) (by decide) (backOf (W := 1) (rm1 l Z a0 hw [] b13 p2 dca h13 n0 z15 A13 f17 f18 f19 f20 f21 f22 f14 g_b13 SD) hZ (hw _ (List.mem_of_getElem? (i := 5) rfl)) (hw _ (List.mem_of_getElem? (i := 2) rfl)) (by decide) (by decide)) (g := (mkF m 56 #[.val (.int p0), .val (.int p1), .val (.int p2), .val (.int p3), .val (.int p4), .val (.long q5), .second, .val (.int j2), .val (.int j6), .val (.int j10), .val (.int (p4 >>> ((3 : Int32) &&& 31))), .unset, .unset, .unset, .unset, .unset] [.null, .null, (.int p2), .null, (.ref b13), (.ref b13)])) rfl (by rw [hml]; rfl) (Steps.refl _) (a := b13) (argsL := [.null, (.int p2), .null, .null]) (rest := [(.ref b13)]) (lenOf pd_1 rfl) rfl (by show 2 * 0 + _ ≤ _; exact Nat.le_of_eq rfl) (hb hby at_56) (fun _ _ => ⟨rfl, e13, (by decide : 1 + 2 ≤ _), (by decide : 8 + 6 ≤ _)⟩)
  dsimp only [Pt.U, Pt.locs, Pt.cells, Pt.slots] at X23 l23 y23 z23 st23 hQ23
  subst l23 y23 z23
  obtain ⟨rfl, N23q, K23, A23, F23_0⟩ := hQ23
  have N23 := Fr.app N0 N23q
  have f24 : Old Z n0 T23.heap := f14.keep K23 (allS g_b13 all0)
  have f25 : Exa Z T23.heap b13 "com/example/nuthatch/nuthatch/planning/PlannedVm" := A13.keep K23
  have z26 : n0 ≤ T23.heap.size := Nat.le_trans z15 K23.1
  have kp27 : Keep h0 T23.heap [] := kp16.trans K23 (allS (Or.inr sz_b13) all0)
  obtain ⟨T28, h28, X28, e28, E28, A28, D28, -, st28⟩ := newO X23 hx hZ hown (hw _ (List.mem_of_getElem? (i := 0) rfl)) (hw _ (List.mem_of_getElem? (i := 1) rfl)) (hw _ (List.mem_of_getElem? (i := 2) rfl)) rfl (g := (mkF m 61 #[.val (.int p0), .val (.int p1), .val (.int p2), .val (.int p3), .val (.int p4), .val (.long q5), .second, .val (.int j2), .val (.int j6), .val (.int j10), .val (.int (p4 >>> ((3 : Int32) &&& 31))), .val (.ref b13), .unset, .unset, .unset, .unset] [])) rfl (hb hby at_61) (by decide) (by decide)
  obtain ⟨b28, g28⟩ : ∃ z, z = T23.heap.size := ⟨_, rfl⟩
  rw [← g28] at A28 D28 st28
  have g_b28 : n0 ≤ b28 := Nat.le_trans z26 (Nat.le_of_eq g28.symm)
  have sz_b28 : h0.size ≤ b28 := Nat.le_trans kp27.1 (Nat.le_of_eq g28.symm)
  have ne_b13_b28 : b13 ≠ b28 := Nat.ne_of_lt (Nat.lt_of_lt_of_le f25.lt (Nat.le_of_eq g28.symm))
  have f29 : Old Z n0 h28 := f24.ext E28
  have f30 : Exa Z h28 b13 "com/example/nuthatch/nuthatch/planning/PlannedVm" := f25.ext E28
  have f31 : Fld Z h28 b13 "com/example/nuthatch/nuthatch/planning/PlannedVm" "number" "I" (.int p2) := F23_0.ext E28
  have z32 : n0 ≤ h28.size := Nat.le_trans z26 E28.1
  have kp33 : Keep h0 h28 [] := kp27.ext E28
  have f34 : Fld Z h28 b28 "com/example/nuthatch/nuthatch/planning/PlannedVm" "slots" "Ljava/util/List;" .null := D28 (Or.inr (hw _ (List.mem_of_getElem? (i := 34) rfl))) (ty := (.object "java/util/List")) (by decide)
  have f35 : Fld Z h28 b28 "com/example/nuthatch/nuthatch/planning/PlannedVm" "gaps" "Ljava/util/List;" .null := D28 (Or.inr (hw _ (List.mem_of_getElem? (i := 36) rfl))) (ty := (.object "java/util/List")) (by decide)
  have f36 : Fld Z h28 b28 "com/example/nuthatch/nuthatch/planning/PlannedVm" "terms" "Lcom/example/nuthatch/nuthatch/planning/VmTerms;" .null := D28 (Or.inr (hw _ (List.mem_of_getElem? (i := 38) rfl))) (ty := (.object "com/example/nuthatch/nuthatch/planning/VmTerms")) (by decide)
  have f37 : Fld Z h28 b28 "com/example/nuthatch/nuthatch/planning/PlannedVm" "number" "I" (.int (0 : Int32)) := D28 (Or.inr (hw _ (List.mem_of_getElem? (i := 40) rfl))) (ty := .int) (by decide)
  have f38 : Fld Z h28 b28 "com/example/nuthatch/nuthatch/planning/PlannedVm" "free" "Lcom/example/nuthatch/nuthatch/planning/FreeTime;" .null := D28 (Or.inr (hw _ (List.mem_of_getElem? (i := 42) rfl))) (ty := (.object "com/example/nuthatch/nuthatch/planning/FreeTime")) (by decide)
  have f39 : Fld Z h28 b28 "com/example/nuthatch/nuthatch/planning/PlannedVm" "cache" "Lcom/example/nuthatch/nuthatch/planning/PlannedCache;" .null := D28 (Or.inr (hw _ (List.mem_of_getElem? (i := 44) rfl))) (ty := (.object "com/example/nuthatch/nuthatch/planning/PlannedCache")) (by decide)
  obtain ⟨_, _, ⟨T40, L40, k40, n40⟩, -, X40, ⟨Lc40, hQ40, l40, y40, z40⟩, st40⟩ := X28.specialBack hx (y := (⟨"com/example/nuthatch/nuthatch/planning/PlannedVm", "<init>", "(Lcom/example/nuthatch/nuthatch/planning/VmTerms;ILcom/example/nuthatch/nuthatch/planning/FreeTime;Lcom/example/nuthatch/nuthatch/planning/PlannedCache;)V"⟩ : MethodName)) rfl hown (mvT hZ (hw _ (List.mem_of_getElem? (i := 3) rfl))) (mvT hZ (hw _ (List.mem_of_getElem? (i := 4) rfl))) (mvT hZ (hw _ (List.mem_of_getElem? (i := 5) rfl))) (by decide) (backOf (W := 1) (rm1 l Z a0 hw [] b28 j10 dca h28 n0 z32 A28 f34 f35 f36 f37 f38 f39 f29 g_b28 SD) hZ (hw _ (List.mem_of_getElem? (i := 5) rfl)) (hw _ (List.mem_of_getElem? (i := 2) rfl)) (by decide) (by decide)) (g := (mkF m 70 #[.val (.int p0), .val (.int p1), .val (.int p2), .val (.int p3), .val (.int p4), .val (.long q5), .second, .val (.int j2), .val (.int j6), .val (.int j10), .val (.int (p4 >>> ((3 : Int32) &&& 31))), .val (.ref b13), .unset, .unset, .unset, .unset] [.null, .null, (.int j10), .null, (.ref b28), (.ref b28)])) rfl (by rw [hml]; rfl) (Steps.refl _) (a := b28) (argsL := [.null, (.int j10), .null, .null]) (rest := [(.ref b28)]) (lenOf pd_1 rfl) rfl (by show 2 * 0 + _ ≤ _; exact Nat.le_of_eq rfl) (hb hby at_70) (fun _ _ => ⟨rfl, e28, (by decide : 4 + 2 ≤ _), (by decide : 22 + 6 ≤ _)⟩)
  dsimp only [Pt.U, Pt.locs, Pt.cells, Pt.slots] at X40 l40 y40 z40 st40 hQ40
  subst l40 y40 z40
  obtain ⟨rfl, N40q, K40, A40, F40_0⟩ := hQ40
  have N40 := Fr.app N23 N40q
  have f41 : Old Z n0 T40.heap := f29.keep K40 (allS g_b28 all0)
  have f42 : Exa Z T40.heap b13 "com/example/nuthatch/nuthatch/planning/PlannedVm" := f30.keep K40
  have f43 : Fld Z T40.heap b13 "com/example/nuthatch/nuthatch/planning/PlannedVm" "number" "I" (.int p2) := f31.keep K40 (ninS ne_b13_b28 nin0)
  have f44 : Exa Z T40.heap b28 "com/example/nuthatch/nuthatch/planning/PlannedVm" := A28.keep K40
  have z45 : n0 ≤ T40.heap.size := Nat.le_trans z32 K40.1
  have kp46 : Keep h0 T40.heap [] := kp33.trans K40 (allS (Or.inr sz_b28) all0)
  obtain ⟨T47, h47, X47, e47, E47, A47, D47, -, st47⟩ := newO X40 hx hZ hown (hw _ (List.mem_of_getElem? (i := 45) rfl)) (hw _ (List.mem_of_getElem? (i := 46) rfl)) (hw _ (List.mem_of_getElem? (i := 47) rfl)) rfl (g := (mkF m 75 #[.val (.int p0), .val (.int p1), .val (.int p2), .val (.int p3), .val (.int p4), .val (.long q5), .second, .val (.int j2), .val (.int j6), .val (.int j10), .val (.int (p4 >>> ((3 : Int32) &&& 31))), .val (.ref b13), .val (.ref b28), .unset, .unset, .unset] [])) rfl (hb hby at_75) (by decide) (by decide)
  obtain ⟨b47, g47⟩ : ∃ z, z = T40.heap.size := ⟨_, rfl⟩
  rw [← g47] at A47 D47 st47
  have g_b47 : n0 ≤ b47 := Nat.le_trans z45 (Nat.le_of_eq g47.symm)
  have sz_b47 : h0.size ≤ b47 := Nat.le_trans kp46.1 (Nat.le_of_eq g47.symm)
  have ne_b13_b47 : b13 ≠ b47 := Nat.ne_of_lt (Nat.lt_of_lt_of_le f42.lt (Nat.le_of_eq g47.symm))
  have ne_b28_b47 : b28 ≠ b47 := Nat.ne_of_lt (Nat.lt_of_lt_of_le f44.lt (Nat.le_of_eq g47.symm))
  have f48 : Old Z n0 h47 := f41.ext E47
  have f49 : Exa Z h47 b13 "com/example/nuthatch/nuthatch/planning/PlannedVm" := f42.ext E47
  have f50 : Fld Z h47 b13 "com/example/nuthatch/nuthatch/planning/PlannedVm" "number" "I" (.int p2) := f43.ext E47
  have f51 : Exa Z h47 b28 "com/example/nuthatch/nuthatch/planning/PlannedVm" := f44.ext E47
  have f52 : Fld Z h47 b28 "com/example/nuthatch/nuthatch/planning/PlannedVm" "number" "I" (.int j10) := F40_0.ext E47
  have z53 : n0 ≤ h47.size := Nat.le_trans z45 E47.1
  have kp54 : Keep h0 h47 [] := kp46.ext E47
  have f55 : Fld Z h47 b47 "com/example/nuthatch/nuthatch/planning/Placement" "vm" "Lcom/example/nuthatch/nuthatch/planning/PlannedVm;" .null := D47 (Or.inr (hw _ (List.mem_of_getElem? (i := 58) rfl))) (ty := (.object "com/example/nuthatch/nuthatch/planning/PlannedVm")) (by decide)
  have f56 : Fld Z h47 b47 "com/example/nuthatch/nuthatch/planning/Placement" "start" "D" (.double 0) := D47 (Or.inr (hw _ (List.mem_of_getElem? (i := 60) rfl))) (ty := .double) (by decide)
  have f57 : Fld Z h47 b47 "com/example/nuthatch/nuthatch/planning/Placement" "finish" "D" (.double 0) := D47 (Or.inr (hw _ (List.mem_of_getElem? (i := 62) rfl))) (ty := .double) (by decide)
  have f58 : Fld Z h47 b47 "com/example/nuthatch/nuthatch/planning/Placement" "spanStart" "D" (.double 0) := D47 (Or.inr (hw _ (List.mem_of_getElem? (i := 64) rfl))) (ty := .double) (by decide)
  have f59 : Fld Z h47 b47 "com/example/nuthatch/nuthatch/planning/Placement" "cost" "J" (.long (0 : Int64)) := D47 (Or.inr (hw _ (List.mem_of_getElem? (i := 66) rfl))) (ty := .long) (by decide)
  obtain ⟨_, _, ⟨T60, L60, k60, n60⟩, -, X60, ⟨Lc60, hQ60, l60, y60, z60⟩, st60⟩ := X47.specialBack hx (y := (⟨"com/example/nuthatch/nuthatch/planning/Placement", "<init>", "(Lcom/example/nuthatch/nuthatch/planning/PlannedVm;DDDJ)V"⟩ : MethodName)) rfl hown (mvT hZ (hw _ (List.mem_of_getElem? (i := 48) rfl))) (mvT hZ (hw _ (List.mem_of_getElem? (i := 49) rfl))) (mvT hZ (hw _ (List.mem_of_getElem? (i := 50) rfl))) (by decide) (backOf (W := 1) (rm6 l Z a0 hw [] b47 b13 (FP.i2d p0) (FP.i2d (p4 >>> ((3 : Int32) &&& 31))) (FP.i2d p3) q5  h47 n0 z53 A47 f55 f56 f57 f58 f59 g_b47) hZ (hw _ (List.mem_of_getElem? (i := 50) rfl)) (hw _ (List.mem_of_getElem? (i := 47) rfl)) (by decide) (by decide)) (g := (mkF m 90 #[.val (.int p0), .val (.int p1), .val (.int p2), .val (.int p3), .val (.int p4), .val (.long q5), .second, .val (.int j2), .val (.int j6), .val (.int j10), .val (.int (p4 >>> ((3 : Int32) &&& 31))), .val (.ref b13), .val (.ref b28), .unset, .unset, .unset] [(.long q5), (.double (FP.i2d p3)), (.double (FP.i2d (p4 >>> ((3 : Int32) &&& 31)))), (.double (FP.i2d p0)), (.ref b13), (.ref b47), (.ref b47)])) rfl (by rw [hml]; rfl) (Steps.refl _) (a := b47) (argsL := [(.ref b13), (.double (FP.i2d p0)), (.double (FP.i2d (p4 >>> ((3 : Int32) &&& 31)))), (.double (FP.i2d p3)), (.long q5)]) (rest := [(.ref b47)]) (lenOf pd_2 rfl) rfl (by show 2 * 0 + _ ≤ _; exact Nat.le_of_eq rfl) (hb hby at_90) (fun _ _ => ⟨rfl, e47, (by decide : 7 + 0 ≤ _), (by decide : 33 + 0 ≤ _)⟩)
  dsimp only [Pt.U, Pt.locs, Pt.cells, Pt.slots] at X60 l60 y60 z60 st60 hQ60
  subst l60 y60 z60
  obtain ⟨rfl, N60q, K60, A60, F60_0, F60_1, F60_2, F60_3⟩ := hQ60
  have N60 := Fr.app N40 N60q
  have f61 : Old Z n0 T60.heap := f48.keep K60 (allS g_b47 all0)
  have f62 : Exa Z T60.heap b13 "com/example/nuthatch/nuthatch/planning/PlannedVm" := f49.keep K60
  have f63 : Fld Z T60.heap b13 "com/example/nuthatch/nuthatch/planning/PlannedVm" "number" "I" (.int p2) := f50.keep K60 (ninS ne_b13_b47 nin0)
  have f64 : Exa Z T60.heap b28 "com/example/nuthatch/nuthatch/planning/PlannedVm" := f51.keep K60
  have f65 : Fld Z T60.heap b28 "com/example/nuthatch/nuthatch/planning/PlannedVm" "number" "I" (.int j10) := f52.keep K60 (ninS ne_b28_b47 nin0)
  have f66 : Exa Z T60.heap b47 "com/example/nuthatch/nuthatch/planning/Placement" := A47.keep K60
  have z67 : n0 ≤ T60.heap.size := Nat.le_trans z53 K60.1
  have kp68 : Keep h0 T60.heap [] := kp54.trans K60 (allS (Or.inr sz_b47) all0)
  have G69 : ∀ t, Steps p.tables e below (T60.setTop (mkF m 97 #[.val (.int p0), .val (.int p1), .val (.int p2), .val (.int p3), .val (.int p4), .val (.long q5), .second, .val (.int j2), .val (.int j6), .val (.int j10), .val (.int (p4 >>> ((3 : Int32) &&& 31))), .val (.ref b13), .val (.ref b28), .val (.ref b47), .unset, .unset] [(.int j2)])) t → Steps p.tables e below (s₁.setTop (entryFrame m #[(.int p0), (.int p1), (.int p2), (.int p3), (.int p4), (.long q5)] maxLocals)) t := by
    intro t kt
    refine G11 _ ?_
    show Steps p.tables e below (s₁.setTop (mkF m 40 #[.val (.int p0), .val (.int p1), .val (.int p2), .val (.int p3), .val (.int p4), .val (.long q5), .second, .val (.int j2), .val (.int j6), .unset, .unset, .unset, .unset, .unset, .unset, .unset] [(.int j10)])) _
    refine XS.istore X0.here hx rfl (hb hby at_40) rfl (l' := #[.val (.int p0), .val (.int p1), .val (.int p2), .val (.int p3), .val (.int p4), .val (.long q5), .second, .val (.int j2), .val (.int j6), .val (.int j10), .unset, .unset, .unset, .unset, .unset, .unset]) rfl ?_
    show Steps p.tables e below (s₁.setTop (mkF m 42 #[.val (.int p0), .val (.int p1), .val (.int p2), .val (.int p3), .val (.int p4), .val (.long q5), .second, .val (.int j2), .val (.int j6), .val (.int j10), .unset, .unset, .unset, .unset, .unset, .unset] [])) _
    refine XS.iload X0.here hx rfl (hb hby at_42) rfl ?_
    show Steps p.tables e below (s₁.setTop (mkF m 44 #[.val (.int p0), .val (.int p1), .val (.int p2), .val (.int p3), .val (.int p4), .val (.long q5), .second, .val (.int j2), .val (.int j6), .val (.int j10), .unset, .unset, .unset, .unset, .unset, .unset] [(.int p4)])) _
    refine XS.iconst X0.here hx rfl (hb hby at_44) ?_
    show Steps p.tables e below (s₁.setTop (mkF m 45 #[.val (.int p0), .val (.int p1), .val (.int p2), .val (.int p3), .val (.int p4), .val (.long q5), .second, .val (.int j2), .val (.int j6), .val (.int j10), .unset, .unset, .unset, .unset, .unset, .unset] [(.int (3 : Int32)), (.int p4)])) _
    refine XS.ishr X0.here hx rfl (hb hby at_45) rfl ?_
    show Steps p.tables e below (s₁.setTop (mkF m 46 #[.val (.int p0), .val (.int p1), .val (.int p2), .val (.int p3), .val (.int p4), .val (.long q5), .second, .val (.int j2), .val (.int j6), .val (.int j10), .unset, .unset, .unset, .unset, .unset, .unset] [(.int (p4 >>> ((3 : Int32) &&& 31)))])) _
    refine XS.istore X0.here hx rfl (hb hby at_46) rfl (l' := #[.val (.int p0), .val (.int p1), .val (.int p2), .val (.int p3), .val (.int p4), .val (.long q5), .second, .val (.int j2), .val (.int j6), .val (.int j10), .val (.int (p4 >>> ((3 : Int32) &&& 31))), .unset, .unset, .unset, .unset, .unset]) rfl ?_
    show Steps p.tables e below (s₁.setTop (mkF m 48 #[.val (.int p0), .val (.int p1), .val (.int p2), .val (.int p3), .val (.int p4), .val (.long q5), .second, .val (.int j2), .val (.int j6), .val (.int j10), .val (.int (p4 >>> ((3 : Int32) &&& 31))), .unset, .unset, .unset, .unset, .unset] [])) _
    refine st13 _ ?_
    show Steps p.tables e below (T13.setTop (mkF m 51 #[.val (.int p0), .val (.int p1), .val (.int p2), .val (.int p3), .val (.int p4), .val (.long q5), .second, .val (.int j2), .val (.int j6), .val (.int j10), .val (.int (p4 >>> ((3 : Int32) &&& 31))), .unset, .unset, .unset, .unset, .unset] [(.ref b13)])) _
    refine XS.dup X13.here hx rfl (hb hby at_51) rfl rfl ?_
    show Steps p.tables e below (T13.setTop (mkF m 52 #[.val (.int p0), .val (.int p1), .val (.int p2), .val (.int p3), .val (.int p4), .val (.long q5), .second, .val (.int j2), .val (.int j6), .val (.int j10), .val (.int (p4 >>> ((3 : Int32) &&& 31))), .unset, .unset, .unset, .unset, .unset] [(.ref b13), (.ref b13)])) _
    refine XS.aconstNull X13.here hx rfl (hb hby at_52) ?_
    show Steps p.tables e below (T13.setTop (mkF m 53 #[.val (.int p0), .val (.int p1), .val (.int p2), .val (.int p3), .val (.int p4), .val (.long q5), .second, .val (.int j2), .val (.int j6), .val (.int j10), .val (.int (p4 >>> ((3 : Int32) &&& 31))), .unset, .unset, .unset, .unset, .unset] [.null, (.ref b13), (.ref b13)])) _
    refine XS.iloadN X13.here hx rfl (hb hby at_53) rfl ?_
    show Steps p.tables e below (T13.setTop (mkF m 54 #[.val (.int p0), .val (.int p1), .val (.int p2), .val (.int p3), .val (.int p4), .val (.long q5), .second, .val (.int j2), .val (.int j6), .val (.int j10), .val (.int (p4 >>> ((3 : Int32) &&& 31))), .unset, .unset, .unset, .unset, .unset] [(.int p2), .null, (.ref b13), (.ref b13)])) _
    refine XS.aconstNull X13.here hx rfl (hb hby at_54) ?_
    show Steps p.tables e below (T13.setTop (mkF m 55 #[.val (.int p0), .val (.int p1), .val (.int p2), .val (.int p3), .val (.int p4), .val (.long q5), .second, .val (.int j2), .val (.int j6), .val (.int j10), .val (.int (p4 >>> ((3 : Int32) &&& 31))), .unset, .unset, .unset, .unset, .unset] [.null, (.int p2), .null, (.ref b13), (.ref b13)])) _
    refine XS.aconstNull X13.here hx rfl (hb hby at_55) ?_
    show Steps p.tables e below (T13.setTop (mkF m 56 #[.val (.int p0), .val (.int p1), .val (.int p2), .val (.int p3), .val (.int p4), .val (.long q5), .second, .val (.int j2), .val (.int j6), .val (.int j10), .val (.int (p4 >>> ((3 : Int32) &&& 31))), .unset, .unset, .unset, .unset, .unset] [.null, .null, (.int p2), .null, (.ref b13), (.ref b13)])) _
    refine st23.trans ?_
    show Steps p.tables e below (T23.setTop (mkF m 59 #[.val (.int p0), .val (.int p1), .val (.int p2), .val (.int p3), .val (.int p4), .val (.long q5), .second, .val (.int j2), .val (.int j6), .val (.int j10), .val (.int (p4 >>> ((3 : Int32) &&& 31))), .unset, .unset, .unset, .unset, .unset] [(.ref b13)])) _
    refine XS.astore X23.here hx rfl (hb hby at_59) rfl rfl (l' := #[.val (.int p0), .val (.int p1), .val (.int p2), .val (.int p3), .val (.int p4), .val (.long q5), .second, .val (.int j2), .val (.int j6), .val (.int j10), .val (.int (p4 >>> ((3 : Int32) &&& 31))), .val (.ref b13), .unset, .unset, .unset, .unset]) rfl ?_
    show Steps p.tables e below (T23.setTop (mkF m 61 #[.val (.int p0), .val (.int p1), .val (.int p2), .val (.int p3), .val (.int p4), .val (.long q5), .second, .val (.int j2), .val (.int j6), .val (.int j10), .val (.int (p4 >>> ((3 : Int32) &&& 31))), .val (.ref b13), .unset, .unset, .unset, .unset] [])) _
    refine st28 _ ?_
    show Steps p.tables e below (T28.setTop (mkF m 64 #[.val (.int p0), .val (.int p1), .val (.int p2), .val (.int p3), .val (.int p4), .val (.long q5), .second, .val (.int j2), .val (.int j6), .val (.int j10), .val (.int (p4 >>> ((3 : Int32) &&& 31))), .val (.ref b13), .unset, .unset, .unset, .unset] [(.ref b28)])) _
    refine XS.dup X28.here hx rfl (hb hby at_64) rfl rfl ?_
    show Steps p.tables e below (T28.setTop (mkF m 65 #[.val (.int p0), .val (.int p1), .val (.int p2), .val (.int p3), .val (.int p4), .val (.long q5), .second, .val (.int j2), .val (.int j6), .val (.int j10), .val (.int (p4 >>> ((3 : Int32) &&& 31))), .val (.ref b13), .unset, .unset, .unset, .unset] [(.ref b28), (.ref b28)])) _
    refine XS.aconstNull X28.here hx rfl (hb hby at_65) ?_
    show Steps p.tables e below (T28.setTop (mkF m 66 #[.val (.int p0), .val (.int p1), .val (.int p2), .val (.int p3), .val (.int p4), .val (.long q5), .second, .val (.int j2), .val (.int j6), .val (.int j10), .val (.int (p4 >>> ((3 : Int32) &&& 31))), .val (.ref b13), .unset, .unset, .unset, .unset] [.null, (.ref b28), (.ref b28)])) _
    refine XS.iload X28.here hx rfl (hb hby at_66) rfl ?_
    show Steps p.tables e below (T28.setTop (mkF m 68 #[.val (.int p0), .val (.int p1), .val (.int p2), .val (.int p3), .val (.int p4), .val (.long q5), .second, .val (.int j2), .val (.int j6), .val (.int j10), .val (.int (p4 >>> ((3 : Int32) &&& 31))), .val (.ref b13), .unset, .unset, .unset, .unset] [(.int j10), .null, (.ref b28), (.ref b28)])) _
    refine XS.aconstNull X28.here hx rfl (hb hby at_68) ?_
    show Steps p.tables e below (T28.setTop (mkF m 69 #[.val (.int p0), .val (.int p1), .val (.int p2), .val (.int p3), .val (.int p4), .val (.long q5), .second, .val (.int j2), .val (.int j6), .val (.int j10), .val (.int (p4 >>> ((3 : Int32) &&& 31))), .val (.ref b13), .unset, .unset, .unset, .unset] [.null, (.int j10), .null, (.ref b28), (.ref b28)])) _
    refine XS.aconstNull X28.here hx rfl (hb hby at_69) ?_
    show Steps p.tables e below (T28.setTop (mkF m 70 #[.val (.int p0), .val (.int p1), .val (.int p2), .val (.int p3), .val (.int p4), .val (.long q5), .second, .val (.int j2), .val (.int j6), .val (.int j10), .val (.int (p4 >>> ((3 : Int32) &&& 31))), .val (.ref b13), .unset, .unset, .unset, .unset] [.null, .null, (.int j10), .null, (.ref b28), (.ref b28)])) _
    refine st40.trans ?_
    show Steps p.tables e below (T40.setTop (mkF m 73 #[.val (.int p0), .val (.int p1), .val (.int p2), .val (.int p3), .val (.int p4), .val (.long q5), .second, .val (.int j2), .val (.int j6), .val (.int j10), .val (.int (p4 >>> ((3 : Int32) &&& 31))), .val (.ref b13), .unset, .unset, .unset, .unset] [(.ref b28)])) _
    refine XS.astore X40.here hx rfl (hb hby at_73) rfl rfl (l' := #[.val (.int p0), .val (.int p1), .val (.int p2), .val (.int p3), .val (.int p4), .val (.long q5), .second, .val (.int j2), .val (.int j6), .val (.int j10), .val (.int (p4 >>> ((3 : Int32) &&& 31))), .val (.ref b13), .val (.ref b28), .unset, .unset, .unset]) rfl ?_
    show Steps p.tables e below (T40.setTop (mkF m 75 #[.val (.int p0), .val (.int p1), .val (.int p2), .val (.int p3), .val (.int p4), .val (.long q5), .second, .val (.int j2), .val (.int j6), .val (.int j10), .val (.int (p4 >>> ((3 : Int32) &&& 31))), .val (.ref b13), .val (.ref b28), .unset, .unset, .unset] [])) _
    refine st47 _ ?_
    show Steps p.tables e below (T47.setTop (mkF m 78 #[.val (.int p0), .val (.int p1), .val (.int p2), .val (.int p3), .val (.int p4), .val (.long q5), .second, .val (.int j2), .val (.int j6), .val (.int j10), .val (.int (p4 >>> ((3 : Int32) &&& 31))), .val (.ref b13), .val (.ref b28), .unset, .unset, .unset] [(.ref b47)])) _
    refine XS.dup X47.here hx rfl (hb hby at_78) rfl rfl ?_
    show Steps p.tables e below (T47.setTop (mkF m 79 #[.val (.int p0), .val (.int p1), .val (.int p2), .val (.int p3), .val (.int p4), .val (.long q5), .second, .val (.int j2), .val (.int j6), .val (.int j10), .val (.int (p4 >>> ((3 : Int32) &&& 31))), .val (.ref b13), .val (.ref b28), .unset, .unset, .unset] [(.ref b47), (.ref b47)])) _
    refine XS.aload X47.here hx rfl (hb hby at_79) rfl rfl ?_
    show Steps p.tables e below (T47.setTop (mkF m 81 #[.val (.int p0), .val (.int p1), .val (.int p2), .val (.int p3), .val (.int p4), .val (.long q5), .second, .val (.int j2), .val (.int j6), .val (.int j10), .val (.int (p4 >>> ((3 : Int32) &&& 31))), .val (.ref b13), .val (.ref b28), .unset, .unset, .unset] [(.ref b13), (.ref b47), (.ref b47)])) _
    refine XS.iloadN X47.here hx rfl (hb hby at_81) rfl ?_
    show Steps p.tables e below (T47.setTop (mkF m 82 #[.val (.int p0), .val (.int p1), .val (.int p2), .val (.int p3), .val (.int p4), .val (.long q5), .second, .val (.int j2), .val (.int j6), .val (.int j10), .val (.int (p4 >>> ((3 : Int32) &&& 31))), .val (.ref b13), .val (.ref b28), .unset, .unset, .unset] [(.int p0), (.ref b13), (.ref b47), (.ref b47)])) _
    refine XS.i2dS X47.here hx rfl (hb hby at_82) rfl rfl ?_
    show Steps p.tables e below (T47.setTop (mkF m 83 #[.val (.int p0), .val (.int p1), .val (.int p2), .val (.int p3), .val (.int p4), .val (.long q5), .second, .val (.int j2), .val (.int j6), .val (.int j10), .val (.int (p4 >>> ((3 : Int32) &&& 31))), .val (.ref b13), .val (.ref b28), .unset, .unset, .unset] [(.double (FP.i2d p0)), (.ref b13), (.ref b47), (.ref b47)])) _
    refine XS.iload X47.here hx rfl (hb hby at_83) rfl ?_
    show Steps p.tables e below (T47.setTop (mkF m 85 #[.val (.int p0), .val (.int p1), .val (.int p2), .val (.int p3), .val (.int p4), .val (.long q5), .second, .val (.int j2), .val (.int j6), .val (.int j10), .val (.int (p4 >>> ((3 : Int32) &&& 31))), .val (.ref b13), .val (.ref b28), .unset, .unset, .unset] [(.int (p4 >>> ((3 : Int32) &&& 31))), (.double (FP.i2d p0)), (.ref b13), (.ref b47), (.ref b47)])) _
    refine XS.i2dS X47.here hx rfl (hb hby at_85) rfl rfl ?_
    show Steps p.tables e below (T47.setTop (mkF m 86 #[.val (.int p0), .val (.int p1), .val (.int p2), .val (.int p3), .val (.int p4), .val (.long q5), .second, .val (.int j2), .val (.int j6), .val (.int j10), .val (.int (p4 >>> ((3 : Int32) &&& 31))), .val (.ref b13), .val (.ref b28), .unset, .unset, .unset] [(.double (FP.i2d (p4 >>> ((3 : Int32) &&& 31)))), (.double (FP.i2d p0)), (.ref b13), (.ref b47), (.ref b47)])) _
    refine XS.iloadN X47.here hx rfl (hb hby at_86) rfl ?_
    show Steps p.tables e below (T47.setTop (mkF m 87 #[.val (.int p0), .val (.int p1), .val (.int p2), .val (.int p3), .val (.int p4), .val (.long q5), .second, .val (.int j2), .val (.int j6), .val (.int j10), .val (.int (p4 >>> ((3 : Int32) &&& 31))), .val (.ref b13), .val (.ref b28), .unset, .unset, .unset] [(.int p3), (.double (FP.i2d (p4 >>> ((3 : Int32) &&& 31)))), (.double (FP.i2d p0)), (.ref b13), (.ref b47), (.ref b47)])) _
    refine XS.i2dS X47.here hx rfl (hb hby at_87) rfl rfl ?_
    show Steps p.tables e below (T47.setTop (mkF m 88 #[.val (.int p0), .val (.int p1), .val (.int p2), .val (.int p3), .val (.int p4), .val (.long q5), .second, .val (.int j2), .val (.int j6), .val (.int j10), .val (.int (p4 >>> ((3 : Int32) &&& 31))), .val (.ref b13), .val (.ref b28), .unset, .unset, .unset] [(.double (FP.i2d p3)), (.double (FP.i2d (p4 >>> ((3 : Int32) &&& 31)))), (.double (FP.i2d p0)), (.ref b13), (.ref b47), (.ref b47)])) _
    refine XS.lload X47.here hx rfl (hb hby at_88) rfl ?_
    show Steps p.tables e below (T47.setTop (mkF m 90 #[.val (.int p0), .val (.int p1), .val (.int p2), .val (.int p3), .val (.int p4), .val (.long q5), .second, .val (.int j2), .val (.int j6), .val (.int j10), .val (.int (p4 >>> ((3 : Int32) &&& 31))), .val (.ref b13), .val (.ref b28), .unset, .unset, .unset] [(.long q5), (.double (FP.i2d p3)), (.double (FP.i2d (p4 >>> ((3 : Int32) &&& 31)))), (.double (FP.i2d p0)), (.ref b13), (.ref b47), (.ref b47)])) _
    refine st60.trans ?_
    show Steps p.tables e below (T60.setTop (mkF m 93 #[.val (.int p0), .val (.int p1), .val (.int p2), .val (.int p3), .val (.int p4), .val (.long q5), .second, .val (.int j2), .val (.int j6), .val (.int j10), .val (.int (p4 >>> ((3 : Int32) &&& 31))), .val (.ref b13), .val (.ref b28), .unset, .unset, .unset] [(.ref b47)])) _
    refine XS.astore X60.here hx rfl (hb hby at_93) rfl rfl (l' := #[.val (.int p0), .val (.int p1), .val (.int p2), .val (.int p3), .val (.int p4), .val (.long q5), .second, .val (.int j2), .val (.int j6), .val (.int j10), .val (.int (p4 >>> ((3 : Int32) &&& 31))), .val (.ref b13), .val (.ref b28), .val (.ref b47), .unset, .unset]) rfl ?_
    show Steps p.tables e below (T60.setTop (mkF m 95 #[.val (.int p0), .val (.int p1), .val (.int p2), .val (.int p3), .val (.int p4), .val (.long q5), .second, .val (.int j2), .val (.int j6), .val (.int j10), .val (.int (p4 >>> ((3 : Int32) &&& 31))), .val (.ref b13), .val (.ref b28), .val (.ref b47), .unset, .unset] [])) _
    refine XS.iload X60.here hx rfl (hb hby at_95) rfl ?_
    exact kt
  by_cases hc97_70 : j2 = (0 : Int32)
  · skip
    obtain ⟨T71, h71, X71, e71, E71, A71, D71, -, st71⟩ := newO X60 hx hZ hown (hw _ (List.mem_of_getElem? (i := 45) rfl)) (hw _ (List.mem_of_getElem? (i := 46) rfl)) (hw _ (List.mem_of_getElem? (i := 47) rfl)) rfl (g := (mkF m 104 #[.val (.int p0), .val (.int p1), .val (.int p2), .val (.int p3), .val (.int p4), .val (.long q5), .second, .val (.int j2), .val (.int j6), .val (.int j10), .val (.int (p4 >>> ((3 : Int32) &&& 31))), .val (.ref b13), .val (.ref b28), .val (.ref b47), .unset, .unset] [])) rfl (hb hby at_104) (by decide) (by decide)
    obtain ⟨b71, g71⟩ : ∃ z, z = T60.heap.size := ⟨_, rfl⟩
    rw [← g71] at A71 D71 st71
    have g_b71 : n0 ≤ b71 := Nat.le_trans z67 (Nat.le_of_eq g71.symm)
    have sz_b71 : h0.size ≤ b71 := Nat.le_trans kp68.1 (Nat.le_of_eq g71.symm)
    have ne_b13_b71 : b13 ≠ b71 := Nat.ne_of_lt (Nat.lt_of_lt_of_le f62.lt (Nat.le_of_eq g71.symm))
    have ne_b28_b71 : b28 ≠ b71 := Nat.ne_of_lt (Nat.lt_of_lt_of_le f64.lt (Nat.le_of_eq g71.symm))
    have ne_b47_b71 : b47 ≠ b71 := Nat.ne_of_lt (Nat.lt_of_lt_of_le f66.lt (Nat.le_of_eq g71.symm))
    have f72 : Old Z n0 h71 := f61.ext E71
    have f73 : Exa Z h71 b13 "com/example/nuthatch/nuthatch/planning/PlannedVm" := f62.ext E71
    have f74 : Fld Z h71 b13 "com/example/nuthatch/nuthatch/planning/PlannedVm" "number" "I" (.int p2) := f63.ext E71
    have f75 : Exa Z h71 b28 "com/example/nuthatch/nuthatch/planning/PlannedVm" := f64.ext E71
    have f76 : Fld Z h71 b28 "com/example/nuthatch/nuthatch/planning/PlannedVm" "number" "I" (.int j10) := f65.ext E71
    have f77 : Exa Z h71 b47 "com/example/nuthatch/nuthatch/planning/Placement" := f66.ext E71
    have f78 : Fld Z h71 b47 "com/example/nuthatch/nuthatch/planning/Placement" "vm" "Lcom/example/nuthatch/nuthatch/planning/PlannedVm;" (.ref b13) := F60_0.ext E71
    have f79 : Fld Z h71 b47 "com/example/nuthatch/nuthatch/planning/Placement" "start" "D" (.double (FP.i2d p0)) := F60_1.ext E71
    have f80 : Fld Z h71 b47 "com/example/nuthatch/nuthatch/planning/Placement" "finish" "D" (.double (FP.i2d (p4 >>> ((3 : Int32) &&& 31)))) := F60_2.ext E71
    have f81 : Fld Z h71 b47 "com/example/nuthatch/nuthatch/planning/Placement" "cost" "J" (.long q5) := F60_3.ext E71
    have z82 : n0 ≤ h71.size := Nat.le_trans z67 E71.1
    have kp83 : Keep h0 h71 [] := kp68.ext E71
    have f84 : Fld Z h71 b71 "com/example/nuthatch/nuthatch/planning/Placement" "vm" "Lcom/example/nuthatch/nuthatch/planning/PlannedVm;" .null := D71 (Or.inr (hw _ (List.mem_of_getElem? (i := 58) rfl))) (ty := (.object "com/example/nuthatch/nuthatch/planning/PlannedVm")) (by decide)
    have f85 : Fld Z h71 b71 "com/example/nuthatch/nuthatch/planning/Placement" "start" "D" (.double 0) := D71 (Or.inr (hw _ (List.mem_of_getElem? (i := 60) rfl))) (ty := .double) (by decide)
    have f86 : Fld Z h71 b71 "com/example/nuthatch/nuthatch/planning/Placement" "finish" "D" (.double 0) := D71 (Or.inr (hw _ (List.mem_of_getElem? (i := 62) rfl))) (ty := .double) (by decide)
    have f87 : Fld Z h71 b71 "com/example/nuthatch/nuthatch/planning/Placement" "spanStart" "D" (.double 0) := D71 (Or.inr (hw _ (List.mem_of_getElem? (i := 64) rfl))) (ty := .double) (by decide)
    have f88 : Fld Z h71 b71 "com/example/nuthatch/nuthatch/planning/Placement" "cost" "J" (.long (0 : Int64)) := D71 (Or.inr (hw _ (List.mem_of_getElem? (i := 66) rfl))) (ty := .long) (by decide)
    obtain ⟨_, _, ⟨T89, L89, k89, n89⟩, -, X89, ⟨Lc89, hQ89, l89, y89, z89⟩, st89⟩ := X71.specialBack hx (y := (⟨"com/example/nuthatch/nuthatch/planning/Placement", "<init>", "(Lcom/example/nuthatch/nuthatch/planning/PlannedVm;DDDJ)V"⟩ : MethodName)) rfl hown (mvT hZ (hw _ (List.mem_of_getElem? (i := 48) rfl))) (mvT hZ (hw _ (List.mem_of_getElem? (i := 49) rfl))) (mvT hZ (hw _ (List.mem_of_getElem? (i := 50) rfl))) (by decide) (backOf (W := 1) (rm6 l Z a0 hw [] b71 b28 (FP.i2d j6) (FP.i2d p1) (FP.i2d p2) (q5 ^^^ (-1 : Int64))  h71 n0 z82 A71 f84 f85 f86 f87 f88 g_b71) hZ (hw _ (List.mem_of_getElem? (i := 50) rfl)) (hw _ (List.mem_of_getElem? (i := 47) rfl)) (by decide) (by decide)) (g := (mkF m 123 #[.val (.int p0), .val (.int p1), .val (.int p2), .val (.int p3), .val (.int p4), .val (.long q5), .second, .val (.int j2), .val (.int j6), .val (.int j10), .val (.int (p4 >>> ((3 : Int32) &&& 31))), .val (.ref b13), .val (.ref b28), .val (.ref b47), .unset, .unset] [(.long (q5 ^^^ (-1 : Int64))), (.double (FP.i2d p2)), (.double (FP.i2d p1)), (.double (FP.i2d j6)), (.ref b28), (.ref b71), (.ref b71)])) rfl (by rw [hml]; rfl) (Steps.refl _) (a := b71) (argsL := [(.ref b28), (.double (FP.i2d j6)), (.double (FP.i2d p1)), (.double (FP.i2d p2)), (.long (q5 ^^^ (-1 : Int64)))]) (rest := [(.ref b71)]) (lenOf pd_2 rfl) rfl (by show 2 * 0 + _ ≤ _; exact Nat.le_of_eq rfl) (hb hby at_123) (fun _ _ => ⟨rfl, e71, (by decide : 8 + 0 ≤ _), (by decide : 38 + 0 ≤ _)⟩)
    dsimp only [Pt.U, Pt.locs, Pt.cells, Pt.slots] at X89 l89 y89 z89 st89 hQ89
    subst l89 y89 z89
    obtain ⟨rfl, N89q, K89, A89, F89_0, F89_1, F89_2, F89_3⟩ := hQ89
    have N89 := Fr.app N60 N89q
    have f90 : Old Z n0 T89.heap := f72.keep K89 (allS g_b71 all0)
    have f91 : Exa Z T89.heap b13 "com/example/nuthatch/nuthatch/planning/PlannedVm" := f73.keep K89
    have f92 : Fld Z T89.heap b13 "com/example/nuthatch/nuthatch/planning/PlannedVm" "number" "I" (.int p2) := f74.keep K89 (ninS ne_b13_b71 nin0)
    have f93 : Exa Z T89.heap b28 "com/example/nuthatch/nuthatch/planning/PlannedVm" := f75.keep K89
    have f94 : Fld Z T89.heap b28 "com/example/nuthatch/nuthatch/planning/PlannedVm" "number" "I" (.int j10) := f76.keep K89 (ninS ne_b28_b71 nin0)
    have f95 : Exa Z T89.heap b47 "com/example/nuthatch/nuthatch/planning/Placement" := f77.keep K89
    have f96 : Fld Z T89.heap b47 "com/example/nuthatch/nuthatch/planning/Placement" "vm" "Lcom/example/nuthatch/nuthatch/planning/PlannedVm;" (.ref b13) := f78.keep K89 (ninS ne_b47_b71 nin0)
    have f97 : Fld Z T89.heap b47 "com/example/nuthatch/nuthatch/planning/Placement" "start" "D" (.double (FP.i2d p0)) := f79.keep K89 (ninS ne_b47_b71 nin0)
    have f98 : Fld Z T89.heap b47 "com/example/nuthatch/nuthatch/planning/Placement" "finish" "D" (.double (FP.i2d (p4 >>> ((3 : Int32) &&& 31)))) := f80.keep K89 (ninS ne_b47_b71 nin0)
    have f99 : Fld Z T89.heap b47 "com/example/nuthatch/nuthatch/planning/Placement" "cost" "J" (.long q5) := f81.keep K89 (ninS ne_b47_b71 nin0)
    have f100 : Exa Z T89.heap b71 "com/example/nuthatch/nuthatch/planning/Placement" := A71.keep K89
    have z101 : n0 ≤ T89.heap.size := Nat.le_trans z82 K89.1
    have kp102 : Keep h0 T89.heap [] := kp83.trans K89 (allS (Or.inr sz_b71) all0)
    have G103 : ∀ t, Steps p.tables e below (T89.setTop (mkF m 130 #[.val (.int p0), .val (.int p1), .val (.int p2), .val (.int p3), .val (.int p4), .val (.long q5), .second, .val (.int j2), .val (.int j6), .val (.int j10), .val (.int (p4 >>> ((3 : Int32) &&& 31))), .val (.ref b13), .val (.ref b28), .val (.ref b47), .val (.ref b71), .unset] [(.int j2)])) t → Steps p.tables e below (s₁.setTop (entryFrame m #[(.int p0), (.int p1), (.int p2), (.int p3), (.int p4), (.long q5)] maxLocals)) t := by
      intro t kt
      refine G69 _ ?_
      show Steps p.tables e below (T60.setTop (mkF m 97 #[.val (.int p0), .val (.int p1), .val (.int p2), .val (.int p3), .val (.int p4), .val (.long q5), .second, .val (.int j2), .val (.int j6), .val (.int j10), .val (.int (p4 >>> ((3 : Int32) &&& 31))), .val (.ref b13), .val (.ref b28), .val (.ref b47), .unset, .unset] [(.int j2)])) _
      refine XS.ifYes X60.here hx rfl (pc0 := 97) (pc' := 104) rfl (hb hby at_97) rfl ((if0 _ _).trans (teq hc97_70).1) (by decide) (by decide) ?_
      show Steps p.tables e below (T60.setTop (mkF m 104 #[.val (.int p0), .val (.int p1), .val (.int p2), .val (.int p3), .val (.int p4), .val (.long q5), .second, .val (.int j2), .val (.int j6), .val (.int j10), .val (.int (p4 >>> ((3 : Int32) &&& 31))), .val (.ref b13), .val (.ref b28), .val (.ref b47), .unset, .unset] [])) _
      refine st71 _ ?_
      show Steps p.tables e below (T71.setTop (mkF m 107 #[.val (.int p0), .val (.int p1), .val (.int p2), .val (.int p3), .val (.int p4), .val (.long q5), .second, .val (.int j2), .val (.int j6), .val (.int j10), .val (.int (p4 >>> ((3 : Int32) &&& 31))), .val (.ref b13), .val (.ref b28), .val (.ref b47), .unset, .unset] [(.ref b71)])) _
      refine XS.dup X71.here hx rfl (hb hby at_107) rfl rfl ?_
      show Steps p.tables e below (T71.setTop (mkF m 108 #[.val (.int p0), .val (.int p1), .val (.int p2), .val (.int p3), .val (.int p4), .val (.long q5), .second, .val (.int j2), .val (.int j6), .val (.int j10), .val (.int (p4 >>> ((3 : Int32) &&& 31))), .val (.ref b13), .val (.ref b28), .val (.ref b47), .unset, .unset] [(.ref b71), (.ref b71)])) _
      refine XS.aload X71.here hx rfl (hb hby at_108) rfl rfl ?_
      show Steps p.tables e below (T71.setTop (mkF m 110 #[.val (.int p0), .val (.int p1), .val (.int p2), .val (.int p3), .val (.int p4), .val (.long q5), .second, .val (.int j2), .val (.int j6), .val (.int j10), .val (.int (p4 >>> ((3 : Int32) &&& 31))), .val (.ref b13), .val (.ref b28), .val (.ref b47), .unset, .unset] [(.ref b28), (.ref b71), (.ref b71)])) _
      refine XS.iload X71.here hx rfl (hb hby at_110) rfl ?_
      show Steps p.tables e below (T71.setTop (mkF m 112 #[.val (.int p0), .val (.int p1), .val (.int p2), .val (.int p3), .val (.int p4), .val (.long q5), .second, .val (.int j2), .val (.int j6), .val (.int j10), .val (.int (p4 >>> ((3 : Int32) &&& 31))), .val (.ref b13), .val (.ref b28), .val (.ref b47), .unset, .unset] [(.int j6), (.ref b28), (.ref b71), (.ref b71)])) _
      refine XS.i2dS X71.here hx rfl (hb hby at_112) rfl rfl ?_
      show Steps p.tables e below (T71.setTop (mkF m 113 #[.val (.int p0), .val (.int p1), .val (.int p2), .val (.int p3), .val (.int p4), .val (.long q5), .second, .val (.int j2), .val (.int j6), .val (.int j10), .val (.int (p4 >>> ((3 : Int32) &&& 31))), .val (.ref b13), .val (.ref b28), .val (.ref b47), .unset, .unset] [(.double (FP.i2d j6)), (.ref b28), (.ref b71), (.ref b71)])) _
      refine XS.iloadN X71.here hx rfl (hb hby at_113) rfl ?_
      show Steps p.tables e below (T71.setTop (mkF m 114 #[.val (.int p0), .val (.int p1), .val (.int p2), .val (.int p3), .val (.int p4), .val (.long q5), .second, .val (.int j2), .val (.int j6), .val (.int j10), .val (.int (p4 >>> ((3 : Int32) &&& 31))), .val (.ref b13), .val (.ref b28), .val (.ref b47), .unset, .unset] [(.int p1), (.double (FP.i2d j6)), (.ref b28), (.ref b71), (.ref b71)])) _
      refine XS.i2dS X71.here hx rfl (hb hby at_114) rfl rfl ?_
      show Steps p.tables e below (T71.setTop (mkF m 115 #[.val (.int p0), .val (.int p1), .val (.int p2), .val (.int p3), .val (.int p4), .val (.long q5), .second, .val (.int j2), .val (.int j6), .val (.int j10), .val (.int (p4 >>> ((3 : Int32) &&& 31))), .val (.ref b13), .val (.ref b28), .val (.ref b47), .unset, .unset] [(.double (FP.i2d p1)), (.double (FP.i2d j6)), (.ref b28), (.ref b71), (.ref b71)])) _
      refine XS.iloadN X71.here hx rfl (hb hby at_115) rfl ?_
      show Steps p.tables e below (T71.setTop (mkF m 116 #[.val (.int p0), .val (.int p1), .val (.int p2), .val (.int p3), .val (.int p4), .val (.long q5), .second, .val (.int j2), .val (.int j6), .val (.int j10), .val (.int (p4 >>> ((3 : Int32) &&& 31))), .val (.ref b13), .val (.ref b28), .val (.ref b47), .unset, .unset] [(.int p2), (.double (FP.i2d p1)), (.double (FP.i2d j6)), (.ref b28), (.ref b71), (.ref b71)])) _
      refine XS.i2dS X71.here hx rfl (hb hby at_116) rfl rfl ?_
      show Steps p.tables e below (T71.setTop (mkF m 117 #[.val (.int p0), .val (.int p1), .val (.int p2), .val (.int p3), .val (.int p4), .val (.long q5), .second, .val (.int j2), .val (.int j6), .val (.int j10), .val (.int (p4 >>> ((3 : Int32) &&& 31))), .val (.ref b13), .val (.ref b28), .val (.ref b47), .unset, .unset] [(.double (FP.i2d p2)), (.double (FP.i2d p1)), (.double (FP.i2d j6)), (.ref b28), (.ref b71), (.ref b71)])) _
      refine XS.lload X71.here hx rfl (hb hby at_117) rfl ?_
      show Steps p.tables e below (T71.setTop (mkF m 119 #[.val (.int p0), .val (.int p1), .val (.int p2), .val (.int p3), .val (.int p4), .val (.long q5), .second, .val (.int j2), .val (.int j6), .val (.int j10), .val (.int (p4 >>> ((3 : Int32) &&& 31))), .val (.ref b13), .val (.ref b28), .val (.ref b47), .unset, .unset] [(.long q5), (.double (FP.i2d p2)), (.double (FP.i2d p1)), (.double (FP.i2d j6)), (.ref b28), (.ref b71), (.ref b71)])) _
      refine X71.ldc2Long hx hown (mvT hZ (hw _ (List.mem_of_getElem? (i := 67) rfl))) (g := (mkF m 119 #[.val (.int p0), .val (.int p1), .val (.int p2), .val (.int p3), .val (.int p4), .val (.long q5), .second, .val (.int j2), .val (.int j6), .val (.int j10), .val (.int (p4 >>> ((3 : Int32) &&& 31))), .val (.ref b13), .val (.ref b28), .val (.ref b47), .unset, .unset] [(.long q5), (.double (FP.i2d p2)), (.double (FP.i2d p1)), (.double (FP.i2d j6)), (.ref b28), (.ref b71), (.ref b71)])) rfl (hb hby at_119) _ ?_
      show Steps p.tables e below (T71.setTop (mkF m 122 #[.val (.int p0), .val (.int p1), .val (.int p2), .val (.int p3), .val (.int p4), .val (.long q5), .second, .val (.int j2), .val (.int j6), .val (.int j10), .val (.int (p4 >>> ((3 : Int32) &&& 31))), .val (.ref b13), .val (.ref b28), .val (.ref b47), .unset, .unset] [(.long (-1 : Int64)), (.long q5), (.double (FP.i2d p2)), (.double (FP.i2d p1)), (.double (FP.i2d j6)), (.ref b28), (.ref b71), (.ref b71)])) _
      refine XS.lxor X71.here hx rfl (hb hby at_122) rfl ?_
      show Steps p.tables e below (T71.setTop (mkF m 123 #[.val (.int p0), .val (.int p1), .val (.int p2), .val (.int p3), .val (.int p4), .val (.long q5), .second, .val (.int j2), .val (.int j6), .val (.int j10), .val (.int (p4 >>> ((3 : Int32) &&& 31))), .val (.ref b13), .val (.ref b28), .val (.ref b47), .unset, .unset] [(.long (q5 ^^^ (-1 : Int64))), (.double (FP.i2d p2)), (.double (FP.i2d p1)), (.double (FP.i2d j6)), (.ref b28), (.ref b71), (.ref b71)])) _
      refine st89.trans ?_
      show Steps p.tables e below (T89.setTop (mkF m 126 #[.val (.int p0), .val (.int p1), .val (.int p2), .val (.int p3), .val (.int p4), .val (.long q5), .second, .val (.int j2), .val (.int j6), .val (.int j10), .val (.int (p4 >>> ((3 : Int32) &&& 31))), .val (.ref b13), .val (.ref b28), .val (.ref b47), .unset, .unset] [(.ref b71)])) _
      refine XS.astore X89.here hx rfl (hb hby at_126) rfl rfl (l' := #[.val (.int p0), .val (.int p1), .val (.int p2), .val (.int p3), .val (.int p4), .val (.long q5), .second, .val (.int j2), .val (.int j6), .val (.int j10), .val (.int (p4 >>> ((3 : Int32) &&& 31))), .val (.ref b13), .val (.ref b28), .val (.ref b47), .val (.ref b71), .unset]) rfl ?_
      show Steps p.tables e below (T89.setTop (mkF m 128 #[.val (.int p0), .val (.int p1), .val (.int p2), .val (.int p3), .val (.int p4), .val (.long q5), .second, .val (.int j2), .val (.int j6), .val (.int j10), .val (.int (p4 >>> ((3 : Int32) &&& 31))), .val (.ref b13), .val (.ref b28), .val (.ref b47), .val (.ref b71), .unset] [])) _
      refine XS.iload X89.here hx rfl (hb hby at_128) rfl ?_
      exact kt
    have G104 : ∀ t, Steps p.tables e below (T89.setTop (mkF m 139 #[.val (.int p0), .val (.int p1), .val (.int p2), .val (.int p3), .val (.int p4), .val (.long q5), .second, .val (.int j2), .val (.int j6), .val (.int j10), .val (.int (p4 >>> ((3 : Int32) &&& 31))), .val (.ref b13), .val (.ref b28), .val (.ref b47), .val (.ref b71), .unset] [])) t → Steps p.tables e below (s₁.setTop (entryFrame m #[(.int p0), (.int p1), (.int p2), (.int p3), (.int p4), (.long q5)] maxLocals)) t := by
      intro t kt
      refine G103 _ ?_
      show Steps p.tables e below (T89.setTop (mkF m 130 #[.val (.int p0), .val (.int p1), .val (.int p2), .val (.int p3), .val (.int p4), .val (.long q5), .second, .val (.int j2), .val (.int j6), .val (.int j10), .val (.int (p4 >>> ((3 : Int32) &&& 31))), .val (.ref b13), .val (.ref b28), .val (.ref b47), .val (.ref b71), .unset] [(.int j2)])) _
      refine XS.ifYes X89.here hx rfl (pc0 := 130) (pc' := 139) rfl (hb hby at_130) rfl ((if0 _ _).trans (teq hc97_70).1) (by decide) (by decide) ?_
      exact kt
    obtain ⟨j105, hj105⟩ : ∃ z : Int32, z = (if p0 < j6 then (1 : Int32) else (if j6 < p0 then (0 : Int32) else (if p2 < j10 then (1 : Int32) else (0 : Int32)))) := ⟨_, rfl⟩
    have G106 : ∀ t, Steps p.tables e below (T89.setTop (mkF m 176 #[.val (.int p0), .val (.int p1), .val (.int p2), .val (.int p3), .val (.int p4), .val (.long q5), .second, .val (.int j2), .val (.int j6), .val (.int j10), .val (.int (p4 >>> ((3 : Int32) &&& 31))), .val (.ref b13), .val (.ref b28), .val (.ref b47), .val (.ref b71), .val (.int j105)] [])) t → Steps p.tables e below (s₁.setTop (entryFrame m #[(.int p0), (.int p1), (.int p2), (.int p3), (.int p4), (.long q5)] maxLocals)) t := by
      intro t kt
      have G107 : ∀ t, Steps p.tables e below (T89.setTop (mkF m 142 #[.val (.int p0), .val (.int p1), .val (.int p2), .val (.int p3), .val (.int p4), .val (.long q5), .second, .val (.int j2), .val (.int j6), .val (.int j10), .val (.int (p4 >>> ((3 : Int32) &&& 31))), .val (.ref b13), .val (.ref b28), .val (.ref b47), .val (.ref b71), .unset] [(.int j6), (.int p0)])) t → Steps p.tables e below (s₁.setTop (entryFrame m #[(.int p0), (.int p1), (.int p2), (.int p3), (.int p4), (.long q5)] maxLocals)) t := by
        intro t kt
        refine G104 _ ?_
        show Steps p.tables e below (T89.setTop (mkF m 139 #[.val (.int p0), .val (.int p1), .val (.int p2), .val (.int p3), .val (.int p4), .val (.long q5), .second, .val (.int j2), .val (.int j6), .val (.int j10), .val (.int (p4 >>> ((3 : Int32) &&& 31))), .val (.ref b13), .val (.ref b28), .val (.ref b47), .val (.ref b71), .unset] [])) _
        refine XS.iloadN X89.here hx rfl (hb hby at_139) rfl ?_
        show Steps p.tables e below (T89.setTop (mkF m 140 #[.val (.int p0), .val (.int p1), .val (.int p2), .val (.int p3), .val (.int p4), .val (.long q5), .second, .val (.int j2), .val (.int j6), .val (.int j10), .val (.int (p4 >>> ((3 : Int32) &&& 31))), .val (.ref b13), .val (.ref b28), .val (.ref b47), .val (.ref b71), .unset] [(.int p0)])) _
        refine XS.iload X89.here hx rfl (hb hby at_140) rfl ?_
        exact kt
      by_cases hc142_108 : p0 < j6
      · skip
        rw [show j105 = (1 : Int32) from by rw [hj105, if_pos hc142_108]] at kt
        refine G107 _ ?_
        show Steps p.tables e below (T89.setTop (mkF m 142 #[.val (.int p0), .val (.int p1), .val (.int p2), .val (.int p3), .val (.int p4), .val (.long q5), .second, .val (.int j2), .val (.int j6), .val (.int j10), .val (.int (p4 >>> ((3 : Int32) &&& 31))), .val (.ref b13), .val (.ref b28), .val (.ref b47), .val (.ref b71), .unset] [(.int j6), (.int p0)])) _
        refine XS.icmpNo X89.here hx rfl (hb hby at_142) rfl (tlt hc142_108).2.1 ?_
        show Steps p.tables e below (T89.setTop (mkF m 145 #[.val (.int p0), .val (.int p1), .val (.int p2), .val (.int p3), .val (.int p4), .val (.long q5), .second, .val (.int j2), .val (.int j6), .val (.int j10), .val (.int (p4 >>> ((3 : Int32) &&& 31))), .val (.ref b13), .val (.ref b28), .val (.ref b47), .val (.ref b71), .unset] [])) _
        refine XS.iconst X89.here hx rfl (hb hby at_145) ?_
        show Steps p.tables e below (T89.setTop (mkF m 146 #[.val (.int p0), .val (.int p1), .val (.int p2), .val (.int p3), .val (.int p4), .val (.long q5), .second, .val (.int j2), .val (.int j6), .val (.int j10), .val (.int (p4 >>> ((3 : Int32) &&& 31))), .val (.ref b13), .val (.ref b28), .val (.ref b47), .val (.ref b71), .unset] [(.int (1 : Int32))])) _
        refine XS.istore X89.here hx rfl (hb hby at_146) rfl (l' := #[.val (.int p0), .val (.int p1), .val (.int p2), .val (.int p3), .val (.int p4), .val (.long q5), .second, .val (.int j2), .val (.int j6), .val (.int j10), .val (.int (p4 >>> ((3 : Int32) &&& 31))), .val (.ref b13), .val (.ref b28), .val (.ref b47), .val (.ref b71), .val (.int (1 : Int32))]) rfl ?_
        show Steps p.tables e below (T89.setTop (mkF m 148 #[.val (.int p0), .val (.int p1), .val (.int p2), .val (.int p3), .val (.int p4), .val (.long q5), .second, .val (.int j2), .val (.int j6), .val (.int j10), .val (.int (p4 >>> ((3 : Int32) &&& 31))), .val (.ref b13), .val (.ref b28), .val (.ref b47), .val (.ref b71), .val (.int (1 : Int32))] [])) _
        refine XS.goto X89.here hx rfl (pc0 := 148) (pc' := 176) rfl (hb hby at_148) (by decide) (by decide) ?_
        exact kt
      · skip
        have G109 : ∀ t, Steps p.tables e below (T89.setTop (mkF m 154 #[.val (.int p0), .val (.int p1), .val (.int p2), .val (.int p3), .val (.int p4), .val (.long q5), .second, .val (.int j2), .val (.int j6), .val (.int j10), .val (.int (p4 >>> ((3 : Int32) &&& 31))), .val (.ref b13), .val (.ref b28), .val (.ref b47), .val (.ref b71), .unset] [(.int j6), (.int p0)])) t → Steps p.tables e below (s₁.setTop (entryFrame m #[(.int p0), (.int p1), (.int p2), (.int p3), (.int p4), (.long q5)] maxLocals)) t := by
          intro t kt
          refine G107 _ ?_
          show Steps p.tables e below (T89.setTop (mkF m 142 #[.val (.int p0), .val (.int p1), .val (.int p2), .val (.int p3), .val (.int p4), .val (.long q5), .second, .val (.int j2), .val (.int j6), .val (.int j10), .val (.int (p4 >>> ((3 : Int32) &&& 31))), .val (.ref b13), .val (.ref b28), .val (.ref b47), .val (.ref b71), .unset] [(.int j6), (.int p0)])) _
          refine XS.icmpYes X89.here hx rfl (pc0 := 142) (pc' := 151) rfl (hb hby at_142) rfl (flt hc142_108).2.1 (by decide) (by decide) ?_
          show Steps p.tables e below (T89.setTop (mkF m 151 #[.val (.int p0), .val (.int p1), .val (.int p2), .val (.int p3), .val (.int p4), .val (.long q5), .second, .val (.int j2), .val (.int j6), .val (.int j10), .val (.int (p4 >>> ((3 : Int32) &&& 31))), .val (.ref b13), .val (.ref b28), .val (.ref b47), .val (.ref b71), .unset] [])) _
          refine XS.iloadN X89.here hx rfl (hb hby at_151) rfl ?_
          show Steps p.tables e below (T89.setTop (mkF m 152 #[.val (.int p0), .val (.int p1), .val (.int p2), .val (.int p3), .val (.int p4), .val (.long q5), .second, .val (.int j2), .val (.int j6), .val (.int j10), .val (.int (p4 >>> ((3 : Int32) &&& 31))), .val (.ref b13), .val (.ref b28), .val (.ref b47), .val (.ref b71), .unset] [(.int p0)])) _
          refine XS.iload X89.here hx rfl (hb hby at_152) rfl ?_
          exact kt
        by_cases hc154_110 : j6 < p0
        · skip
          rw [show j105 = (0 : Int32) from by rw [hj105, if_neg hc142_108, if_pos hc154_110]] at kt
          refine G109 _ ?_
          show Steps p.tables e below (T89.setTop (mkF m 154 #[.val (.int p0), .val (.int p1), .val (.int p2), .val (.int p3), .val (.int p4), .val (.long q5), .second, .val (.int j2), .val (.int j6), .val (.int j10), .val (.int (p4 >>> ((3 : Int32) &&& 31))), .val (.ref b13), .val (.ref b28), .val (.ref b47), .val (.ref b71), .unset] [(.int j6), (.int p0)])) _
          refine XS.icmpNo X89.here hx rfl (hb hby at_154) rfl (tlt hc154_110).2.2.2 ?_
          show Steps p.tables e below (T89.setTop (mkF m 157 #[.val (.int p0), .val (.int p1), .val (.int p2), .val (.int p3), .val (.int p4), .val (.long q5), .second, .val (.int j2), .val (.int j6), .val (.int j10), .val (.int (p4 >>> ((3 : Int32) &&& 31))), .val (.ref b13), .val (.ref b28), .val (.ref b47), .val (.ref b71), .unset] [])) _
          refine XS.iconst X89.here hx rfl (hb hby at_157) ?_
          show Steps p.tables e below (T89.setTop (mkF m 158 #[.val (.int p0), .val (.int p1), .val (.int p2), .val (.int p3), .val (.int p4), .val (.long q5), .second, .val (.int j2), .val (.int j6), .val (.int j10), .val (.int (p4 >>> ((3 : Int32) &&& 31))), .val (.ref b13), .val (.ref b28), .val (.ref b47), .val (.ref b71), .unset] [(.int (0 : Int32))])) _
          refine XS.istore X89.here hx rfl (hb hby at_158) rfl (l' := #[.val (.int p0), .val (.int p1), .val (.int p2), .val (.int p3), .val (.int p4), .val (.long q5), .second, .val (.int j2), .val (.int j6), .val (.int j10), .val (.int (p4 >>> ((3 : Int32) &&& 31))), .val (.ref b13), .val (.ref b28), .val (.ref b47), .val (.ref b71), .val (.int (0 : Int32))]) rfl ?_
          show Steps p.tables e below (T89.setTop (mkF m 160 #[.val (.int p0), .val (.int p1), .val (.int p2), .val (.int p3), .val (.int p4), .val (.long q5), .second, .val (.int j2), .val (.int j6), .val (.int j10), .val (.int (p4 >>> ((3 : Int32) &&& 31))), .val (.ref b13), .val (.ref b28), .val (.ref b47), .val (.ref b71), .val (.int (0 : Int32))] [])) _
          refine XS.goto X89.here hx rfl (pc0 := 160) (pc' := 176) rfl (hb hby at_160) (by decide) (by decide) ?_
          exact kt
        · skip
          have G111 : ∀ t, Steps p.tables e below (T89.setTop (mkF m 166 #[.val (.int p0), .val (.int p1), .val (.int p2), .val (.int p3), .val (.int p4), .val (.long q5), .second, .val (.int j2), .val (.int j6), .val (.int j10), .val (.int (p4 >>> ((3 : Int32) &&& 31))), .val (.ref b13), .val (.ref b28), .val (.ref b47), .val (.ref b71), .unset] [(.int j10), (.int p2)])) t → Steps p.tables e below (s₁.setTop (entryFrame m #[(.int p0), (.int p1), (.int p2), (.int p3), (.int p4), (.long q5)] maxLocals)) t := by
            intro t kt
            refine G109 _ ?_
            show Steps p.tables e below (T89.setTop (mkF m 154 #[.val (.int p0), .val (.int p1), .val (.int p2), .val (.int p3), .val (.int p4), .val (.long q5), .second, .val (.int j2), .val (.int j6), .val (.int j10), .val (.int (p4 >>> ((3 : Int32) &&& 31))), .val (.ref b13), .val (.ref b28), .val (.ref b47), .val (.ref b71), .unset] [(.int j6), (.int p0)])) _
            refine XS.icmpYes X89.here hx rfl (pc0 := 154) (pc' := 163) rfl (hb hby at_154) rfl (flt hc154_110).2.2.2 (by decide) (by decide) ?_
            show Steps p.tables e below (T89.setTop (mkF m 163 #[.val (.int p0), .val (.int p1), .val (.int p2), .val (.int p3), .val (.int p4), .val (.long q5), .second, .val (.int j2), .val (.int j6), .val (.int j10), .val (.int (p4 >>> ((3 : Int32) &&& 31))), .val (.ref b13), .val (.ref b28), .val (.ref b47), .val (.ref b71), .unset] [])) _
            refine XS.iloadN X89.here hx rfl (hb hby at_163) rfl ?_
            show Steps p.tables e below (T89.setTop (mkF m 164 #[.val (.int p0), .val (.int p1), .val (.int p2), .val (.int p3), .val (.int p4), .val (.long q5), .second, .val (.int j2), .val (.int j6), .val (.int j10), .val (.int (p4 >>> ((3 : Int32) &&& 31))), .val (.ref b13), .val (.ref b28), .val (.ref b47), .val (.ref b71), .unset] [(.int p2)])) _
            refine XS.iload X89.here hx rfl (hb hby at_164) rfl ?_
            exact kt
          by_cases hc166_112 : p2 < j10
          · skip
            rw [show j105 = (1 : Int32) from by rw [hj105, if_neg hc142_108, if_neg hc154_110, if_pos hc166_112]] at kt
            refine G111 _ ?_
            show Steps p.tables e below (T89.setTop (mkF m 166 #[.val (.int p0), .val (.int p1), .val (.int p2), .val (.int p3), .val (.int p4), .val (.long q5), .second, .val (.int j2), .val (.int j6), .val (.int j10), .val (.int (p4 >>> ((3 : Int32) &&& 31))), .val (.ref b13), .val (.ref b28), .val (.ref b47), .val (.ref b71), .unset] [(.int j10), (.int p2)])) _
            refine XS.icmpNo X89.here hx rfl (hb hby at_166) rfl (tlt hc166_112).2.1 ?_
            show Steps p.tables e below (T89.setTop (mkF m 169 #[.val (.int p0), .val (.int p1), .val (.int p2), .val (.int p3), .val (.int p4), .val (.long q5), .second, .val (.int j2), .val (.int j6), .val (.int j10), .val (.int (p4 >>> ((3 : Int32) &&& 31))), .val (.ref b13), .val (.ref b28), .val (.ref b47), .val (.ref b71), .unset] [])) _
            refine XS.iconst X89.here hx rfl (hb hby at_169) ?_
            show Steps p.tables e below (T89.setTop (mkF m 170 #[.val (.int p0), .val (.int p1), .val (.int p2), .val (.int p3), .val (.int p4), .val (.long q5), .second, .val (.int j2), .val (.int j6), .val (.int j10), .val (.int (p4 >>> ((3 : Int32) &&& 31))), .val (.ref b13), .val (.ref b28), .val (.ref b47), .val (.ref b71), .unset] [(.int (1 : Int32))])) _
            refine XS.goto X89.here hx rfl (pc0 := 170) (pc' := 174) rfl (hb hby at_170) (by decide) (by decide) ?_
            show Steps p.tables e below (T89.setTop (mkF m 174 #[.val (.int p0), .val (.int p1), .val (.int p2), .val (.int p3), .val (.int p4), .val (.long q5), .second, .val (.int j2), .val (.int j6), .val (.int j10), .val (.int (p4 >>> ((3 : Int32) &&& 31))), .val (.ref b13), .val (.ref b28), .val (.ref b47), .val (.ref b71), .unset] [(.int (1 : Int32))])) _
            refine XS.istore X89.here hx rfl (hb hby at_174) rfl (l' := #[.val (.int p0), .val (.int p1), .val (.int p2), .val (.int p3), .val (.int p4), .val (.long q5), .second, .val (.int j2), .val (.int j6), .val (.int j10), .val (.int (p4 >>> ((3 : Int32) &&& 31))), .val (.ref b13), .val (.ref b28), .val (.ref b47), .val (.ref b71), .val (.int (1 : Int32))]) rfl ?_
            exact kt
          · skip
            rw [show j105 = (0 : Int32) from by rw [hj105, if_neg hc142_108, if_neg hc154_110, if_neg hc166_112]] at kt
            refine G111 _ ?_
            show Steps p.tables e below (T89.setTop (mkF m 166 #[.val (.int p0), .val (.int p1), .val (.int p2), .val (.int p3), .val (.int p4), .val (.long q5), .second, .val (.int j2), .val (.int j6), .val (.int j10), .val (.int (p4 >>> ((3 : Int32) &&& 31))), .val (.ref b13), .val (.ref b28), .val (.ref b47), .val (.ref b71), .unset] [(.int j10), (.int p2)])) _
            refine XS.icmpYes X89.here hx rfl (pc0 := 166) (pc' := 173) rfl (hb hby at_166) rfl (flt hc166_112).2.1 (by decide) (by decide) ?_
            show Steps p.tables e below (T89.setTop (mkF m 173 #[.val (.int p0), .val (.int p1), .val (.int p2), .val (.int p3), .val (.int p4), .val (.long q5), .second, .val (.int j2), .val (.int j6), .val (.int j10), .val (.int (p4 >>> ((3 : Int32) &&& 31))), .val (.ref b13), .val (.ref b28), .val (.ref b47), .val (.ref b71), .unset] [])) _
            refine XS.iconst X89.here hx rfl (hb hby at_173) ?_
            show Steps p.tables e below (T89.setTop (mkF m 174 #[.val (.int p0), .val (.int p1), .val (.int p2), .val (.int p3), .val (.int p4), .val (.long q5), .second, .val (.int j2), .val (.int j6), .val (.int j10), .val (.int (p4 >>> ((3 : Int32) &&& 31))), .val (.ref b13), .val (.ref b28), .val (.ref b47), .val (.ref b71), .unset] [(.int (0 : Int32))])) _
            refine XS.istore X89.here hx rfl (hb hby at_174) rfl (l' := #[.val (.int p0), .val (.int p1), .val (.int p2), .val (.int p3), .val (.int p4), .val (.long q5), .second, .val (.int j2), .val (.int j6), .val (.int j10), .val (.int (p4 >>> ((3 : Int32) &&& 31))), .val (.ref b13), .val (.ref b28), .val (.ref b47), .val (.ref b71), .val (.int (0 : Int32))]) rfl ?_
            exact kt
    obtain ⟨cq113, kq113, q113a, q113b, q113c⟩ := isOf hZ rfl f95
    obtain ⟨_, _, ⟨T113, L113, k113, n113⟩, -, X113, ⟨Lc113, hQ113, l113, y113, z113⟩, st113⟩ := X89.virtualBack hx (y := (⟨"com/example/nuthatch/nuthatch/planning/Placement", "precedes", "(Lcom/example/nuthatch/nuthatch/planning/Placement;)Z"⟩ : MethodName)) (z := (⟨"com/example/nuthatch/nuthatch/planning/Placement", "precedes", "(Lcom/example/nuthatch/nuthatch/planning/Placement;)Z"⟩ : MethodName)) hown (mvT hZ (hw _ (List.mem_of_getElem? (i := 68) rfl))) (mvT hZ (hw _ (List.mem_of_getElem? (i := 69) rfl))) (notFace_of_selects (args := #[]) (mvT hZ (hw _ (List.mem_of_getElem? (i := 71) rfl)))) (mvT hZ (hw _ (List.mem_of_getElem? (i := 71) rfl))) (mvT hZ (hw _ (List.mem_of_getElem? (i := 70) rfl))) (by decide) (backOf (W := 0) (rmPr l Z a0 hw [] b47 b71 b13 b28 p0 j6 p2 j10 T89.heap n0 z101 f97 F89_1 f96 F89_0 f92 f94) hZ (hw _ (List.mem_of_getElem? (i := 72) rfl)) (hw _ (List.mem_of_getElem? (i := 47) rfl)) (by decide) (by decide)) q113a q113c (g := (mkF m 180 #[.val (.int p0), .val (.int p1), .val (.int p2), .val (.int p3), .val (.int p4), .val (.long q5), .second, .val (.int j2), .val (.int j6), .val (.int j10), .val (.int (p4 >>> ((3 : Int32) &&& 31))), .val (.ref b13), .val (.ref b28), .val (.ref b47), .val (.ref b71), .val (.int j105)] [(.ref b71), (.ref b47)])) rfl (by rw [hml]; rfl) (Steps.refl _) (argsL := [(.ref b71)]) (rest := []) (lenOf pd_3 rfl) rfl (by show 2 * 0 + _ ≤ _; exact Nat.le_of_eq rfl) (hb hby at_180) (fun _ _ => ⟨rfl, rfl, (by decide : 8 + 0 ≤ _), (by decide : 38 + 0 ≤ _)⟩)
    dsimp only [Pt.U, Pt.locs, Pt.cells, Pt.slots] at X113 l113 y113 z113 st113 hQ113
    subst l113 y113 z113
    obtain ⟨rfl, N113q, eh113⟩ := hQ113
    have N113 := Fr.app N89 N113q
    have G114 : ∀ t, Steps p.tables e below (T113.setTop (mkF m 185 #[.val (.int p0), .val (.int p1), .val (.int p2), .val (.int p3), .val (.int p4), .val (.long q5), .second, .val (.int j2), .val (.int j6), .val (.int j10), .val (.int (p4 >>> ((3 : Int32) &&& 31))), .val (.ref b13), .val (.ref b28), .val (.ref b47), .val (.ref b71), .val (.int j105)] [(.int j105), (.int (fpre p0 j6 p2 j10))])) t → Steps p.tables e below (s₁.setTop (entryFrame m #[(.int p0), (.int p1), (.int p2), (.int p3), (.int p4), (.long q5)] maxLocals)) t := by
      intro t kt
      refine G106 _ ?_
      show Steps p.tables e below (T89.setTop (mkF m 176 #[.val (.int p0), .val (.int p1), .val (.int p2), .val (.int p3), .val (.int p4), .val (.long q5), .second, .val (.int j2), .val (.int j6), .val (.int j10), .val (.int (p4 >>> ((3 : Int32) &&& 31))), .val (.ref b13), .val (.ref b28), .val (.ref b47), .val (.ref b71), .val (.int j105)] [])) _
      refine XS.aload X89.here hx rfl (hb hby at_176) rfl rfl ?_
      show Steps p.tables e below (T89.setTop (mkF m 178 #[.val (.int p0), .val (.int p1), .val (.int p2), .val (.int p3), .val (.int p4), .val (.long q5), .second, .val (.int j2), .val (.int j6), .val (.int j10), .val (.int (p4 >>> ((3 : Int32) &&& 31))), .val (.ref b13), .val (.ref b28), .val (.ref b47), .val (.ref b71), .val (.int j105)] [(.ref b47)])) _
      refine XS.aload X89.here hx rfl (hb hby at_178) rfl rfl ?_
      show Steps p.tables e below (T89.setTop (mkF m 180 #[.val (.int p0), .val (.int p1), .val (.int p2), .val (.int p3), .val (.int p4), .val (.long q5), .second, .val (.int j2), .val (.int j6), .val (.int j10), .val (.int (p4 >>> ((3 : Int32) &&& 31))), .val (.ref b13), .val (.ref b28), .val (.ref b47), .val (.ref b71), .val (.int j105)] [(.ref b71), (.ref b47)])) _
      refine st113.trans ?_
      show Steps p.tables e below (T113.setTop (mkF m 183 #[.val (.int p0), .val (.int p1), .val (.int p2), .val (.int p3), .val (.int p4), .val (.long q5), .second, .val (.int j2), .val (.int j6), .val (.int j10), .val (.int (p4 >>> ((3 : Int32) &&& 31))), .val (.ref b13), .val (.ref b28), .val (.ref b47), .val (.ref b71), .val (.int j105)] [(.int (fpre p0 j6 p2 j10))])) _
      refine XS.iload X113.here hx rfl (hb hby at_183) rfl ?_
      exact kt
    have hc185_115 : (fpre p0 j6 p2 j10) = j105 := own_pre _ _ _ _ _ hj105
    obtain ⟨fs, hr, hrun, hended, hW, hsame⟩ := X113.leave (v := some (.int (1 : Int32))) (fun h => by rw [Bd.returns] at h; cases h)
    refine ⟨_, _, G114 _ ?_, hrun, hended, _, _, rfl, ?_, ⟨_, rfl⟩, hW, hsame.mono (by decide) (by decide)⟩
    · skip
      show Steps p.tables e below (T113.setTop (mkF m 185 #[.val (.int p0), .val (.int p1), .val (.int p2), .val (.int p3), .val (.int p4), .val (.long q5), .second, .val (.int j2), .val (.int j6), .val (.int j10), .val (.int (p4 >>> ((3 : Int32) &&& 31))), .val (.ref b13), .val (.ref b28), .val (.ref b47), .val (.ref b71), .val (.int j105)] [(.int j105), (.int (fpre p0 j6 p2 j10))])) _
      refine XS.icmpNo X113.here hx rfl (hb hby at_185) rfl (teq hc185_115).2 ?_
      show Steps p.tables e below (T113.setTop (mkF m 188 #[.val (.int p0), .val (.int p1), .val (.int p2), .val (.int p3), .val (.int p4), .val (.long q5), .second, .val (.int j2), .val (.int j6), .val (.int j10), .val (.int (p4 >>> ((3 : Int32) &&& 31))), .val (.ref b13), .val (.ref b28), .val (.ref b47), .val (.ref b71), .val (.int j105)] [])) _
      refine XS.iconst X113.here hx rfl (hb hby at_188) ?_
      show Steps p.tables e below (T113.setTop (mkF m 189 #[.val (.int p0), .val (.int p1), .val (.int p2), .val (.int p3), .val (.int p4), .val (.long q5), .second, .val (.int j2), .val (.int j6), .val (.int j10), .val (.int (p4 >>> ((3 : Int32) &&& 31))), .val (.ref b13), .val (.ref b28), .val (.ref b47), .val (.ref b71), .val (.int j105)] [(.int (1 : Int32))])) _
      refine XS.goto X113.here hx rfl (pc0 := 189) (pc' := 193) rfl (hb hby at_189) (by decide) (by decide) ?_
      show Steps p.tables e below (T113.setTop (mkF m 193 #[.val (.int p0), .val (.int p1), .val (.int p2), .val (.int p3), .val (.int p4), .val (.long q5), .second, .val (.int j2), .val (.int j6), .val (.int j10), .val (.int (p4 >>> ((3 : Int32) &&& 31))), .val (.ref b13), .val (.ref b28), .val (.ref b47), .val (.ref b71), .val (.int j105)] [(.int (1 : Int32))])) _
      exact retN X113 hx (t := .boolean) Bd.returns (by simp) (hb hby at_193) hr
    · show Q0 Z p0 p1 p2 p3 p4 q5 dca h0 n0 _ T113.heap _
      rw [eh113]
      exact ⟨rfl, N113⟩
  · skip
    have G116 : ∀ t, Steps p.tables e below (T60.setTop (mkF m 130 #[.val (.int p0), .val (.int p1), .val (.int p2), .val (.int p3), .val (.int p4), .val (.long q5), .second, .val (.int j2), .val (.int j6), .val (.int j10), .val (.int (p4 >>> ((3 : Int32) &&& 31))), .val (.ref b13), .val (.ref b28), .val (.ref b47), .val .null, .unset] [(.int j2)])) t → Steps p.tables e below (s₁.setTop (entryFrame m #[(.int p0), (.int p1), (.int p2), (.int p3), (.int p4), (.long q5)] maxLocals)) t := by
      intro t kt
      refine G69 _ ?_
      show Steps p.tables e below (T60.setTop (mkF m 97 #[.val (.int p0), .val (.int p1), .val (.int p2), .val (.int p3), .val (.int p4), .val (.long q5), .second, .val (.int j2), .val (.int j6), .val (.int j10), .val (.int (p4 >>> ((3 : Int32) &&& 31))), .val (.ref b13), .val (.ref b28), .val (.ref b47), .unset, .unset] [(.int j2)])) _
      refine XS.ifNo X60.here hx rfl (hb hby at_97) rfl ((if0 _ _).trans (feq hc97_70).1) ?_
      show Steps p.tables e below (T60.setTop (mkF m 100 #[.val (.int p0), .val (.int p1), .val (.int p2), .val (.int p3), .val (.int p4), .val (.long q5), .second, .val (.int j2), .val (.int j6), .val (.int j10), .val (.int (p4 >>> ((3 : Int32) &&& 31))), .val (.ref b13), .val (.ref b28), .val (.ref b47), .unset, .unset] [])) _
      refine XS.aconstNull X60.here hx rfl (hb hby at_100) ?_
      show Steps p.tables e below (T60.setTop (mkF m 101 #[.val (.int p0), .val (.int p1), .val (.int p2), .val (.int p3), .val (.int p4), .val (.long q5), .second, .val (.int j2), .val (.int j6), .val (.int j10), .val (.int (p4 >>> ((3 : Int32) &&& 31))), .val (.ref b13), .val (.ref b28), .val (.ref b47), .unset, .unset] [.null])) _
      refine XS.goto X60.here hx rfl (pc0 := 101) (pc' := 126) rfl (hb hby at_101) (by decide) (by decide) ?_
      show Steps p.tables e below (T60.setTop (mkF m 126 #[.val (.int p0), .val (.int p1), .val (.int p2), .val (.int p3), .val (.int p4), .val (.long q5), .second, .val (.int j2), .val (.int j6), .val (.int j10), .val (.int (p4 >>> ((3 : Int32) &&& 31))), .val (.ref b13), .val (.ref b28), .val (.ref b47), .unset, .unset] [.null])) _
      refine XS.astore X60.here hx rfl (hb hby at_126) rfl rfl (l' := #[.val (.int p0), .val (.int p1), .val (.int p2), .val (.int p3), .val (.int p4), .val (.long q5), .second, .val (.int j2), .val (.int j6), .val (.int j10), .val (.int (p4 >>> ((3 : Int32) &&& 31))), .val (.ref b13), .val (.ref b28), .val (.ref b47), .val .null, .unset]) rfl ?_
      show Steps p.tables e below (T60.setTop (mkF m 128 #[.val (.int p0), .val (.int p1), .val (.int p2), .val (.int p3), .val (.int p4), .val (.long q5), .second, .val (.int j2), .val (.int j6), .val (.int j10), .val (.int (p4 >>> ((3 : Int32) &&& 31))), .val (.ref b13), .val (.ref b28), .val (.ref b47), .val .null, .unset] [])) _
      refine XS.iload X60.here hx rfl (hb hby at_128) rfl ?_
      exact kt
    obtain ⟨cq117, kq117, q117a, q117b, q117c⟩ := isOf hZ rfl f66
    obtain ⟨_, _, ⟨T117, L117, k117, n117⟩, -, X117, ⟨Lc117, hQ117, l117, y117, z117⟩, st117⟩ := X60.virtualBack hx (y := (⟨"com/example/nuthatch/nuthatch/planning/Placement", "precedes", "(Lcom/example/nuthatch/nuthatch/planning/Placement;)Z"⟩ : MethodName)) (z := (⟨"com/example/nuthatch/nuthatch/planning/Placement", "precedes", "(Lcom/example/nuthatch/nuthatch/planning/Placement;)Z"⟩ : MethodName)) hown (mvT hZ (hw _ (List.mem_of_getElem? (i := 68) rfl))) (mvT hZ (hw _ (List.mem_of_getElem? (i := 69) rfl))) (notFace_of_selects (args := #[]) (mvT hZ (hw _ (List.mem_of_getElem? (i := 71) rfl)))) (mvT hZ (hw _ (List.mem_of_getElem? (i := 71) rfl))) (mvT hZ (hw _ (List.mem_of_getElem? (i := 70) rfl))) (by decide) (backOf (W := 0) (rmPn l Z a0 hw [] b47  T60.heap n0 z67 ) hZ (hw _ (List.mem_of_getElem? (i := 72) rfl)) (hw _ (List.mem_of_getElem? (i := 47) rfl)) (by decide) (by decide)) q117a q117c (g := (mkF m 180 #[.val (.int p0), .val (.int p1), .val (.int p2), .val (.int p3), .val (.int p4), .val (.long q5), .second, .val (.int j2), .val (.int j6), .val (.int j10), .val (.int (p4 >>> ((3 : Int32) &&& 31))), .val (.ref b13), .val (.ref b28), .val (.ref b47), .val .null, .val (.int (1 : Int32))] [.null, (.ref b47)])) rfl (by rw [hml]; rfl) (Steps.refl _) (argsL := [.null]) (rest := []) (lenOf pd_3 rfl) rfl (by show 2 * 0 + _ ≤ _; exact Nat.le_of_eq rfl) (hb hby at_180) (fun _ _ => ⟨rfl, rfl, (by decide : 7 + 0 ≤ _), (by decide : 33 + 0 ≤ _)⟩)
    dsimp only [Pt.U, Pt.locs, Pt.cells, Pt.slots] at X117 l117 y117 z117 st117 hQ117
    subst l117 y117 z117
    obtain ⟨rfl, N117q, eh117⟩ := hQ117
    have N117 := Fr.app N60 N117q
    have G118 : ∀ t, Steps p.tables e below (T117.setTop (mkF m 185 #[.val (.int p0), .val (.int p1), .val (.int p2), .val (.int p3), .val (.int p4), .val (.long q5), .second, .val (.int j2), .val (.int j6), .val (.int j10), .val (.int (p4 >>> ((3 : Int32) &&& 31))), .val (.ref b13), .val (.ref b28), .val (.ref b47), .val .null, .val (.int (1 : Int32))] [(.int (1 : Int32)), (.int (1 : Int32))])) t → Steps p.tables e below (s₁.setTop (entryFrame m #[(.int p0), (.int p1), (.int p2), (.int p3), (.int p4), (.long q5)] maxLocals)) t := by
      intro t kt
      refine G116 _ ?_
      show Steps p.tables e below (T60.setTop (mkF m 130 #[.val (.int p0), .val (.int p1), .val (.int p2), .val (.int p3), .val (.int p4), .val (.long q5), .second, .val (.int j2), .val (.int j6), .val (.int j10), .val (.int (p4 >>> ((3 : Int32) &&& 31))), .val (.ref b13), .val (.ref b28), .val (.ref b47), .val .null, .unset] [(.int j2)])) _
      refine XS.ifNo X60.here hx rfl (hb hby at_130) rfl ((if0 _ _).trans (feq hc97_70).1) ?_
      show Steps p.tables e below (T60.setTop (mkF m 133 #[.val (.int p0), .val (.int p1), .val (.int p2), .val (.int p3), .val (.int p4), .val (.long q5), .second, .val (.int j2), .val (.int j6), .val (.int j10), .val (.int (p4 >>> ((3 : Int32) &&& 31))), .val (.ref b13), .val (.ref b28), .val (.ref b47), .val .null, .unset] [])) _
      refine XS.iconst X60.here hx rfl (hb hby at_133) ?_
      show Steps p.tables e below (T60.setTop (mkF m 134 #[.val (.int p0), .val (.int p1), .val (.int p2), .val (.int p3), .val (.int p4), .val (.long q5), .second, .val (.int j2), .val (.int j6), .val (.int j10), .val (.int (p4 >>> ((3 : Int32) &&& 31))), .val (.ref b13), .val (.ref b28), .val (.ref b47), .val .null, .unset] [(.int (1 : Int32))])) _
      refine XS.istore X60.here hx rfl (hb hby at_134) rfl (l' := #[.val (.int p0), .val (.int p1), .val (.int p2), .val (.int p3), .val (.int p4), .val (.long q5), .second, .val (.int j2), .val (.int j6), .val (.int j10), .val (.int (p4 >>> ((3 : Int32) &&& 31))), .val (.ref b13), .val (.ref b28), .val (.ref b47), .val .null, .val (.int (1 : Int32))]) rfl ?_
      show Steps p.tables e below (T60.setTop (mkF m 136 #[.val (.int p0), .val (.int p1), .val (.int p2), .val (.int p3), .val (.int p4), .val (.long q5), .second, .val (.int j2), .val (.int j6), .val (.int j10), .val (.int (p4 >>> ((3 : Int32) &&& 31))), .val (.ref b13), .val (.ref b28), .val (.ref b47), .val .null, .val (.int (1 : Int32))] [])) _
      refine XS.goto X60.here hx rfl (pc0 := 136) (pc' := 176) rfl (hb hby at_136) (by decide) (by decide) ?_
      show Steps p.tables e below (T60.setTop (mkF m 176 #[.val (.int p0), .val (.int p1), .val (.int p2), .val (.int p3), .val (.int p4), .val (.long q5), .second, .val (.int j2), .val (.int j6), .val (.int j10), .val (.int (p4 >>> ((3 : Int32) &&& 31))), .val (.ref b13), .val (.ref b28), .val (.ref b47), .val .null, .val (.int (1 : Int32))] [])) _
      refine XS.aload X60.here hx rfl (hb hby at_176) rfl rfl ?_
      show Steps p.tables e below (T60.setTop (mkF m 178 #[.val (.int p0), .val (.int p1), .val (.int p2), .val (.int p3), .val (.int p4), .val (.long q5), .second, .val (.int j2), .val (.int j6), .val (.int j10), .val (.int (p4 >>> ((3 : Int32) &&& 31))), .val (.ref b13), .val (.ref b28), .val (.ref b47), .val .null, .val (.int (1 : Int32))] [(.ref b47)])) _
      refine XS.aload X60.here hx rfl (hb hby at_178) rfl rfl ?_
      show Steps p.tables e below (T60.setTop (mkF m 180 #[.val (.int p0), .val (.int p1), .val (.int p2), .val (.int p3), .val (.int p4), .val (.long q5), .second, .val (.int j2), .val (.int j6), .val (.int j10), .val (.int (p4 >>> ((3 : Int32) &&& 31))), .val (.ref b13), .val (.ref b28), .val (.ref b47), .val .null, .val (.int (1 : Int32))] [.null, (.ref b47)])) _
      refine st117.trans ?_
      show Steps p.tables e below (T117.setTop (mkF m 183 #[.val (.int p0), .val (.int p1), .val (.int p2), .val (.int p3), .val (.int p4), .val (.long q5), .second, .val (.int j2), .val (.int j6), .val (.int j10), .val (.int (p4 >>> ((3 : Int32) &&& 31))), .val (.ref b13), .val (.ref b28), .val (.ref b47), .val .null, .val (.int (1 : Int32))] [(.int (1 : Int32))])) _
      refine XS.iload X117.here hx rfl (hb hby at_183) rfl ?_
      exact kt
    have hc185_119 : (1 : Int32) = (1 : Int32) := rfl
    obtain ⟨fs, hr, hrun, hended, hW, hsame⟩ := X117.leave (v := some (.int (1 : Int32))) (fun h => by rw [Bd.returns] at h; cases h)
    refine ⟨_, _, G118 _ ?_, hrun, hended, _, _, rfl, ?_, ⟨_, rfl⟩, hW, hsame.mono (by decide) (by decide)⟩
    · skip
      show Steps p.tables e below (T117.setTop (mkF m 185 #[.val (.int p0), .val (.int p1), .val (.int p2), .val (.int p3), .val (.int p4), .val (.long q5), .second, .val (.int j2), .val (.int j6), .val (.int j10), .val (.int (p4 >>> ((3 : Int32) &&& 31))), .val (.ref b13), .val (.ref b28), .val (.ref b47), .val .null, .val (.int (1 : Int32))] [(.int (1 : Int32)), (.int (1 : Int32))])) _
      refine XS.icmpNo X117.here hx rfl (hb hby at_185) rfl (teq hc185_119).2 ?_
      show Steps p.tables e below (T117.setTop (mkF m 188 #[.val (.int p0), .val (.int p1), .val (.int p2), .val (.int p3), .val (.int p4), .val (.long q5), .second, .val (.int j2), .val (.int j6), .val (.int j10), .val (.int (p4 >>> ((3 : Int32) &&& 31))), .val (.ref b13), .val (.ref b28), .val (.ref b47), .val .null, .val (.int (1 : Int32))] [])) _
      refine XS.iconst X117.here hx rfl (hb hby at_188) ?_
      show Steps p.tables e below (T117.setTop (mkF m 189 #[.val (.int p0), .val (.int p1), .val (.int p2), .val (.int p3), .val (.int p4), .val (.long q5), .second, .val (.int j2), .val (.int j6), .val (.int j10), .val (.int (p4 >>> ((3 : Int32) &&& 31))), .val (.ref b13), .val (.ref b28), .val (.ref b47), .val .null, .val (.int (1 : Int32))] [(.int (1 : Int32))])) _
      refine XS.goto X117.here hx rfl (pc0 := 189) (pc' := 193) rfl (hb hby at_189) (by decide) (by decide) ?_
      show Steps p.tables e below (T117.setTop (mkF m 193 #[.val (.int p0), .val (.int p1), .val (.int p2), .val (.int p3), .val (.int p4), .val (.long q5), .second, .val (.int j2), .val (.int j6), .val (.int j10), .val (.int (p4 >>> ((3 : Int32) &&& 31))), .val (.ref b13), .val (.ref b28), .val (.ref b47), .val .null, .val (.int (1 : Int32))] [(.int (1 : Int32))])) _
      exact retN X117 hx (t := .boolean) Bd.returns (by simp) (hb hby at_193) hr
    · show Q0 Z p0 p1 p2 p3 p4 q5 dca h0 n0 _ T117.heap _
      rw [eh117]
      exact ⟨rfl, N117⟩
set_option maxRecDepth 65536 in
set_option maxHeartbeats 40000000 in
theorem comes_1 {Post : Tables → Env → Array Value → State → Outcome → State → Prop} (hpost : ∀ tb e args s v u, (limb_1_1.after args s (.returned v) u = true ∧ limb_1_2.after args s (.returned v) u = true ∧ True) → FrameEnd s (.returned v) u (Jvm.fieldLocs frame_1_writes args s ++ Jvm.arrayLocs frame_1_arrays args s ++ Jvm.staticLocs frame_1_statics s) 24 192 → Post tb e args s (.returned v) u) :
    ArmFor flags0 classFile x code maxLocals ret World_1 tables_1 room_1 Calls_1 rest_1 Pre_1 Post := by
  intro l hfl _ _ p e ha hc hk s m args below hf hA hF happ hP
  obtain ⟨hcalls, hrest, hpre⟩ := hP
  obtain ⟨-, -, -, hnamed, -, -, -, hat⟩ := (Spec.applies_iff hf).mp happ
  obtain ⟨hg, hn⟩ := and_e (Cond.before_iff.mp (show (Jvm.Cond.and given_1 narrow_1).before args s = true from hpre))
  obtain ⟨g1, g2⟩ := and_e hg
  obtain ⟨g3, g4⟩ := and_e g2
  obtain ⟨g5, g6⟩ := and_e g4
  obtain ⟨g7, g8⟩ := and_e g6
  obtain ⟨g9, g10⟩ := and_e g8
  obtain ⟨g11, g12⟩ := and_e g10
  obtain ⟨w0, w1, w2, w3, w4, w5, rfl⟩ : ∃ w0 w1 w2 w3 w4 w5 : Value, args = #[w0, w1, w2, w3, w4, w5] := by
    have hs : args.size = 6 := by simpa [Cond.value, given_1] using g1
    obtain ⟨L⟩ := args
    match L, hs with
    | [w0, w1, w2, w3, w4, w5], _ => exact ⟨w0, w1, w2, w3, w4, w5, rfl⟩
  have hw := fun d (hd : d ∈ tables_1) => atoms_spec (ws := Jvm.Cond.code x code maxLocals ret :: tables_1) hat d (List.mem_cons_of_mem _ hd)
  have hfit : Fit s := fun {y c} hc i hi => by
    obtain ⟨ha, rfl⟩ := Array.getElem?_eq_some_iff.mp hc
    have q := List.all_eq_true.mp ((Array.all_eq_true_iff_forall_mem.mp hF) _ (Array.getElem_mem ha)) i (List.mem_range.mpr hi)
    simpa [Array.getElem?_eq_getElem hi] using q
  obtain ⟨hsets, hown0⟩ := atoms_of _ (rest_1_c_eq ▸ (show rest_1_c.before _ s = true from hrest))
  have hr0 := Cond.before_iff.mp hown0
  obtain ⟨i0, ei0⟩ := is_v g3
  obtain rfl : w0 = (.int i0) := Option.some.inj ei0
  obtain ⟨i1, ei1⟩ := is_v g5
  obtain rfl : w1 = (.int i1) := Option.some.inj ei1
  obtain ⟨i2, ei2⟩ := is_v g7
  obtain rfl : w2 = (.int i2) := Option.some.inj ei2
  obtain ⟨i3, ei3⟩ := is_v g9
  obtain rfl : w3 = (.int i3) := Option.some.inj ei3
  obtain ⟨i4, ei4⟩ := is_v g11
  obtain rfl : w4 = (.int i4) := Option.some.inj ei4
  obtain ⟨i5, ei5⟩ := isL_v g12
  obtain rfl : w5 = (.long i5) := Option.some.inj ei5
  obtain ⟨dca, evd⟩ := exa_v (Cond.before_iff.mp (hsets _ (List.mem_of_getElem? (i := 7) rfl)))
  have SD := Sta.start evd (Or.inr ⟨(hw _ (List.mem_of_getElem? (i := 11) rfl)), hsets _ (List.mem_of_getElem? (i := 2) rfl)⟩)
  have O0 := Old.start s
  obtain ⟨n, o, h1, h2, h3, _, L, rfl, ⟨rfl, N⟩, hq⟩ := rm0 l s _ hw tables_1 i0 i1 i2 i3 i4 i5 dca s.heap s.heap.size (Nat.le_refl _) O0 SD p e ha hc hk s m _ below hf ((Spec.applies_iff_loose hf).mp happ).1 ⟨rfl, State.Warmed39.refl s, rfl⟩ trivial
  refine ⟨n, _, h1, h2, h3, hpost _ _ _ _ _ _ ⟨Cond.after_iff.mpr rfl, Cond.after_iff.mpr (eq_i res_at (Term.int_eval (1)) rfl), trivial⟩ ⟨hq.1, hq.2.1, (hq.2.2.sift fun y hy => Or.inr (N y hy)).mono (by decide) (by decide)⟩⟩
theorem main_1_1 : Claimed_1_1 := comes_1 fun _ _ _ _ _ _ h hF => ⟨h.1, hF⟩
theorem main_1_2 : Claimed_1_2 := comes_1 fun _ _ _ _ _ _ h hF => ⟨h.2.1, hF⟩
end Jvm.Pilot.@@N@@
namespace Jvm.Pilot.@@N@@
open Jvm Jvm.ClassFile Sem Op Lib Jvm.Free Jvm.Stand Jvm.Pilot.@@N@@.Jvm.D
/-! MADE BY PROGRAM (witnessworld.py) out of the Statement's table words and the real class files: 20 classes; the members and pool entries that the words name. The judged class is class 1, her method 1. -/
namespace start1
open Jvm.ClassFile
def u (s : String) : CpInfo := .utf8 (stringToUtf16 s)
/-- a pool by its gaps: so many unusable entries, then the entry; so many at the end -/
def gap : Nat → List CpInfo → List CpInfo
  | 0, r => r
  | n + 1, r => .unusable :: gap n r
def poolList (es : List (Nat × CpInfo)) (last : Nat) : List CpInfo := es.foldr (fun e r => gap e.1 (e.2 :: r)) (gap last [])
def pool (es : List (Nat × CpInfo)) (last : Nat) : Array CpInfo := ⟨poolList es last⟩
def fileOf (pool : Array CpInfo) (this : Nat) (attrs : Array Attribute := #[]) (ms : Array MethodInfo := #[]) (fl : Nat := 33) (sup : Nat := 0) (ifs : Array Nat := #[]) (fds : Array FieldInfo := #[]) : ClassFile where
  minorVersion := 0
  majorVersion := 65
  constantPool := pool
  accessFlags := fl
  thisClass := this
  superClass := sup
  interfaces := ifs
  fields := fds
  methods := ms
  attributes := attrs
def plain (name : String) (sup : Option ClassId) : Class where
  name := name
  kind := .ordinary
  loader := none
  accessFlags := 33
  super := sup
  interfaces := #[]
  cf := none
  fields := #[]
  methods := #[]
  instanceTypes := #[]
  staticTypes := #[]
  resolved := #[]
  callSites := []
  init := .initialized
  statics := none
  mirror := none

def pool0 : Array CpInfo := pool [(5, u "<init>"), (0, u "()V"), (1, .class_ 10), (1, u "java/lang/Object")] 113

def k0c0 : Code := { maxStack := 0, maxLocals := 1, code := object_method_1_code, exceptionTable := #[], attributes := #[] }
def k0m0 : Method := { name := "<init>", desc := "()V", sig := { parameters := [], returnType := none }, accessFlags := 1, code := some k0c0 }
/-- java/lang/Object -/
def k0 : Class := { plain "java/lang/Object" none with
  accessFlags := 33
  interfaces := #[]
  cf := some (fileOf pool0 8 #[] #[{ accessFlags := 1, nameIndex := 5, descriptorIndex := 6, attributes := #[] }] 33 0 #[] #[])
  fields := #[]
  methods := #[k0m0]
  instanceTypes := #[]
  staticTypes := #[]
  resolved := Array.replicate 124 none
  statics := none }

def pool1 : Array CpInfo := pool [(2, .class_ 4), (1, u "java/lang/Object"), (0, u "<init>"), (0, u "()V"), (0, .class_ 8), (0, u "com/example/nuthatch/nuthatch/planning/PlannedVm"), (0, .methodref 7 10), (0, .nameAndType 5 11), (0, u "(Lcom/example/nuthatch/nuthatch/planning/VmTerms;ILcom/example/nuthatch/nuthatch/planning/FreeTime;Lcom/example/nuthatch/nuthatch/planning/PlannedCache;)V"), (0, .class_ 13), (0, u "com/example/nuthatch/nuthatch/planning/Placement"), (0, .methodref 12 15), (0, .nameAndType 5 16), (0, u "(Lcom/example/nuthatch/nuthatch/planning/PlannedVm;DDDJ)V"), (0, .long 18446744073709551615), (1, .methodref 12 20), (0, .nameAndType 21 22), (0, u "precedes"), (0, u "(Lcom/example/nuthatch/nuthatch/planning/Placement;)Z"), (0, .class_ 24), (0, u "com/example/nuthatch/nuthatch/planning/PlacementPrecedesPinLaw"), (2, u "law"), (0, u "(IIIIIJ)Z")] 3

def k1m0 : Method := { name := "<init>", desc := "()V", sig := { parameters := [], returnType := none }, accessFlags := 2, code := none }
def k1c1 : Code := { maxStack := 13, maxLocals := 16, code := code, exceptionTable := #[], attributes := #[] }
def k1m1 : Method := { name := "law", desc := "(IIIIIJ)Z", sig := { parameters := [.int, .int, .int, .int, .int, .long], returnType := some .boolean }, accessFlags := 9, code := some k1c1 }
/-- com/example/nuthatch/nuthatch/planning/PlacementPrecedesPinLaw -/
def k1 : Class := { plain "com/example/nuthatch/nuthatch/planning/PlacementPrecedesPinLaw" (some 0) with
  accessFlags := 49
  interfaces := #[]
  cf := some (fileOf pool1 23 #[] #[{ accessFlags := 2, nameIndex := 5, descriptorIndex := 6, attributes := #[] }, { accessFlags := 9, nameIndex := 27, descriptorIndex := 28, attributes := #[] }] 49 2 #[] #[])
  fields := #[]
  methods := #[k1m0, k1m1]
  instanceTypes := #[]
  staticTypes := #[]
  resolved := Array.replicate 32 none
  statics := none }

def pool2 : Array CpInfo := pool [(1, .methodref 2 3), (0, .class_ 4), (0, .nameAndType 5 6), (0, u "java/lang/Object"), (0, u "<init>"), (0, u "()V"), (0, .class_ 8), (0, u "java/util/ArrayList"), (0, .methodref 7 3), (0, .fieldref 11 12), (0, .class_ 13), (0, .nameAndType 14 15), (0, u "com/example/nuthatch/nuthatch/planning/PlannedVm"), (0, u "slots"), (0, u "Ljava/util/List;"), (0, .fieldref 11 17), (0, .nameAndType 18 15), (0, u "gaps"), (0, .fieldref 11 20), (0, .nameAndType 21 22), (0, u "terms"), (0, u "Lcom/example/nuthatch/nuthatch/planning/VmTerms;"), (0, .fieldref 11 24), (0, .nameAndType 25 26), (0, u "number"), (0, u "I"), (0, .fieldref 11 28), (0, .nameAndType 29 30), (0, u "free"), (0, u "Lcom/example/nuthatch/nuthatch/planning/FreeTime;"), (0, .fieldref 11 32), (0, .nameAndType 33 34), (0, u "cache"), (0, u "Lcom/example/nuthatch/nuthatch/planning/PlannedCache;"), (4, u "start"), (7, u "D"), (8, u "periods"), (0, u "J"), (184, u "(Lcom/example/nuthatch/nuthatch/planning/VmTerms;ILcom/example/nuthatch/nuthatch/planning/FreeTime;Lcom/example/nuthatch/nuthatch/planning/PlannedCache;)V")] 43

def k2c0 : Code := { maxStack := 3, maxLocals := 5, code := prog_48_method_1_code, exceptionTable := #[], attributes := #[] }
def k2m0 : Method := { name := "<init>", desc := "(Lcom/example/nuthatch/nuthatch/planning/VmTerms;ILcom/example/nuthatch/nuthatch/planning/FreeTime;Lcom/example/nuthatch/nuthatch/planning/PlannedCache;)V", sig := { parameters := [(.object "com/example/nuthatch/nuthatch/planning/VmTerms"), .int, (.object "com/example/nuthatch/nuthatch/planning/FreeTime"), (.object "com/example/nuthatch/nuthatch/planning/PlannedCache")], returnType := none }, accessFlags := 0, code := some k2c0 }
/-- com/example/nuthatch/nuthatch/planning/PlannedVm -/
def k2 : Class := { plain "com/example/nuthatch/nuthatch/planning/PlannedVm" (some 0) with
  accessFlags := 48
  interfaces := #[]
  cf := some (fileOf pool2 11 #[] #[{ accessFlags := 0, nameIndex := 5, descriptorIndex := 242, attributes := #[] }] 48 2 #[] #[{ accessFlags := 16, nameIndex := 21, descriptorIndex := 22, attributes := #[] }, { accessFlags := 16, nameIndex := 25, descriptorIndex := 26, attributes := #[] }, { accessFlags := 0, nameIndex := 39, descriptorIndex := 47, attributes := #[] }, { accessFlags := 0, nameIndex := 56, descriptorIndex := 57, attributes := #[] }, { accessFlags := 16, nameIndex := 14, descriptorIndex := 15, attributes := #[] }, { accessFlags := 16, nameIndex := 33, descriptorIndex := 34, attributes := #[] }, { accessFlags := 18, nameIndex := 29, descriptorIndex := 30, attributes := #[] }, { accessFlags := 18, nameIndex := 18, descriptorIndex := 15, attributes := #[] }])
  fields := #[{ name := "terms", type := (.object "com/example/nuthatch/nuthatch/planning/VmTerms"), accessFlags := 16, slot := 0, constantValue := 0 }, { name := "number", type := .int, accessFlags := 16, slot := 1, constantValue := 0 }, { name := "start", type := .double, accessFlags := 0, slot := 2, constantValue := 0 }, { name := "periods", type := .long, accessFlags := 0, slot := 3, constantValue := 0 }, { name := "slots", type := (.object "java/util/List"), accessFlags := 16, slot := 4, constantValue := 0 }, { name := "cache", type := (.object "com/example/nuthatch/nuthatch/planning/PlannedCache"), accessFlags := 16, slot := 5, constantValue := 0 }, { name := "free", type := (.object "com/example/nuthatch/nuthatch/planning/FreeTime"), accessFlags := 18, slot := 6, constantValue := 0 }, { name := "gaps", type := (.object "java/util/List"), accessFlags := 18, slot := 7, constantValue := 0 }]
  methods := #[k2m0]
  instanceTypes := #[(.object "com/example/nuthatch/nuthatch/planning/VmTerms"), .int, .double, .long, (.object "java/util/List"), (.object "com/example/nuthatch/nuthatch/planning/PlannedCache"), (.object "com/example/nuthatch/nuthatch/planning/FreeTime"), (.object "java/util/List")]
  staticTypes := #[]
  resolved := Array.replicate 286 none
  statics := none }

def pool3 : Array CpInfo := pool [(8, .class_ 10), (1, u "java/lang/Iterable"), (24, .class_ 36), (0, u "java/lang/Object")] 25

/-- java/lang/Iterable -/
def k3 : Class := { plain "java/lang/Iterable" (some 0) with
  accessFlags := 1537
  interfaces := #[]
  cf := some (fileOf pool3 8 #[] #[] 1537 35 #[] #[])
  fields := #[]
  methods := #[]
  instanceTypes := #[]
  staticTypes := #[]
  resolved := Array.replicate 62 none
  statics := none }

def pool4 : Array CpInfo := pool [(10, .class_ 12), (1, u "java/util/Collection"), (47, .class_ 61), (0, u "java/lang/Object"), (0, .class_ 63), (0, u "java/lang/Iterable")] 51

/-- java/util/Collection -/
def k4 : Class := { plain "java/util/Collection" (some 0) with
  accessFlags := 1537
  interfaces := #[3]
  cf := some (fileOf pool4 10 #[] #[] 1537 60 #[62] #[])
  fields := #[]
  methods := #[]
  instanceTypes := #[]
  staticTypes := #[]
  resolved := Array.replicate 115 none
  statics := none }

def pool5 : Array CpInfo := pool [(1, .methodref 2 3), (0, .class_ 4), (0, .nameAndType 5 6), (0, u "java/lang/Object"), (0, u "<init>"), (0, u "()V"), (1, .class_ 10), (1, u "java/util/AbstractCollection"), (66, .class_ 78), (0, u "java/util/Collection")] 81

def k5c0 : Code := { maxStack := 1, maxLocals := 1, code := jdk_22_method_1_code, exceptionTable := #[], attributes := #[] }
def k5m0 : Method := { name := "<init>", desc := "()V", sig := { parameters := [], returnType := none }, accessFlags := 4, code := some k5c0 }
/-- java/util/AbstractCollection -/
def k5 : Class := { plain "java/util/AbstractCollection" (some 0) with
  accessFlags := 1057
  interfaces := #[4]
  cf := some (fileOf pool5 8 #[] #[{ accessFlags := 4, nameIndex := 5, descriptorIndex := 6, attributes := #[] }] 1057 2 #[77] #[])
  fields := #[]
  methods := #[k5m0]
  instanceTypes := #[]
  staticTypes := #[]
  resolved := Array.replicate 160 none
  statics := none }

def pool6 : Array CpInfo := pool [(8, .class_ 10), (1, u "java/util/SequencedCollection"), (15, .class_ 27), (0, u "java/lang/Object"), (0, .class_ 29), (0, u "java/util/Collection")] 27

/-- java/util/SequencedCollection -/
def k6 : Class := { plain "java/util/SequencedCollection" (some 0) with
  accessFlags := 1537
  interfaces := #[4]
  cf := some (fileOf pool6 8 #[] #[] 1537 26 #[28] #[])
  fields := #[]
  methods := #[]
  instanceTypes := #[]
  staticTypes := #[]
  resolved := Array.replicate 57 none
  statics := none }

def pool7 : Array CpInfo := pool [(8, .class_ 10), (1, u "java/util/List"), (92, .class_ 104), (0, u "java/lang/Object"), (15, .class_ 121), (0, u "java/util/SequencedCollection")] 129

/-- java/util/List -/
def k7 : Class := { plain "java/util/List" (some 0) with
  accessFlags := 1537
  interfaces := #[6]
  cf := some (fileOf pool7 8 #[] #[] 1537 103 #[120] #[])
  fields := #[]
  methods := #[]
  instanceTypes := #[]
  staticTypes := #[]
  resolved := Array.replicate 251 none
  statics := none }

def pool8 : Array CpInfo := pool [(1, .methodref 2 3), (0, .class_ 4), (0, .nameAndType 5 6), (0, u "java/util/AbstractCollection"), (0, u "<init>"), (0, u "()V"), (0, .fieldref 8 9), (0, .class_ 10), (0, .nameAndType 11 12), (0, u "java/util/AbstractList"), (0, u "modCount"), (0, u "I"), (64, .class_ 78), (0, u "java/util/AbstractList$Itr"), (3, .class_ 83), (0, u "java/util/AbstractList$ListItr"), (9, .class_ 94), (0, u "java/util/AbstractList$RandomAccessSubList"), (3, .class_ 99), (0, u "java/util/AbstractList$SubList"), (33, .class_ 134), (0, u "java/util/List"), (73, .class_ 209), (0, u "java/util/AbstractList$SubList$1"), (0, .class_ 211), (0, u "java/util/AbstractList$RandomAccessSpliterator")] 6

def k8c0 : Code := { maxStack := 2, maxLocals := 1, code := jdk_39_method_1_code, exceptionTable := #[], attributes := #[] }
def k8m0 : Method := { name := "<init>", desc := "()V", sig := { parameters := [], returnType := none }, accessFlags := 4, code := some k8c0 }
/-- java/util/AbstractList -/
def k8 : Class := { plain "java/util/AbstractList" (some 5) with
  accessFlags := 1057
  interfaces := #[7]
  cf := some (fileOf pool8 8 #[.nestMembers #[93, 98, 208, 210, 82, 77]] #[{ accessFlags := 4, nameIndex := 5, descriptorIndex := 6, attributes := #[] }] 1057 2 #[133] #[{ accessFlags := 132, nameIndex := 11, descriptorIndex := 12, attributes := #[] }])
  fields := #[{ name := "modCount", type := .int, accessFlags := 132, slot := 0, constantValue := 0 }]
  methods := #[k8m0]
  instanceTypes := #[.int]
  staticTypes := #[]
  resolved := Array.replicate 218 none
  statics := none }

def pool9 : Array CpInfo := pool [(1, .class_ 2), (0, u "java/util/RandomAccess"), (0, .class_ 4), (0, u "java/lang/Object")] 2

/-- java/util/RandomAccess -/
def k9 : Class := { plain "java/util/RandomAccess" (some 0) with
  accessFlags := 1537
  interfaces := #[]
  cf := some (fileOf pool9 1 #[] #[] 1537 3 #[] #[])
  fields := #[]
  methods := #[]
  instanceTypes := #[]
  staticTypes := #[]
  resolved := Array.replicate 7 none
  statics := none }

def pool10 : Array CpInfo := pool [(1, .class_ 2), (0, u "java/lang/Cloneable"), (0, .class_ 4), (0, u "java/lang/Object")] 2

/-- java/lang/Cloneable -/
def k10 : Class := { plain "java/lang/Cloneable" (some 0) with
  accessFlags := 1537
  interfaces := #[]
  cf := some (fileOf pool10 1 #[] #[] 1537 3 #[] #[])
  fields := #[]
  methods := #[]
  instanceTypes := #[]
  staticTypes := #[]
  resolved := Array.replicate 7 none
  statics := none }

def pool11 : Array CpInfo := pool [(1, .class_ 2), (0, u "java/io/Serializable"), (0, .class_ 4), (0, u "java/lang/Object")] 2

/-- java/io/Serializable -/
def k11 : Class := { plain "java/io/Serializable" (some 0) with
  accessFlags := 1537
  interfaces := #[]
  cf := some (fileOf pool11 1 #[] #[] 1537 3 #[] #[])
  fields := #[]
  methods := #[]
  instanceTypes := #[]
  staticTypes := #[]
  resolved := Array.replicate 7 none
  statics := none }

def pool12 : Array CpInfo := pool [(1, .methodref 2 3), (0, .class_ 4), (0, .nameAndType 5 6), (0, u "java/util/AbstractList"), (0, u "<init>"), (0, u "()V"), (2, .fieldref 10 11), (0, .class_ 12), (0, .nameAndType 13 14), (0, u "java/util/ArrayList"), (0, u "elementData"), (0, u "[Ljava/lang/Object;"), (2, u "EMPTY_ELEMENTDATA"), (21, .fieldref 10 40), (0, .nameAndType 41 14), (0, u "DEFAULTCAPACITY_EMPTY_ELEMENTDATA"), (8, u "size"), (0, u "I"), (96, .class_ 149), (0, u "java/util/List"), (112, .class_ 263), (0, u "java/util/ArrayList$ListItr"), (3, .class_ 268), (0, u "java/util/ArrayList$Itr"), (7, .class_ 277), (0, u "java/util/ArrayList$SubList"), (12, .class_ 291), (0, u "java/util/ArrayList$ArrayListSpliterator"), (37, .class_ 330), (0, u "java/util/RandomAccess"), (0, .class_ 332), (0, u "java/lang/Cloneable"), (0, .class_ 334), (0, u "java/io/Serializable"), (0, u "serialVersionUID"), (0, u "J"), (3, u "DEFAULT_CAPACITY"), (159, .class_ 501), (0, u "java/util/ArrayList$SubList$2"), (0, .class_ 503), (0, u "java/util/ArrayList$SubList$1")] 5

def k12c0 : Code := { maxStack := 2, maxLocals := 1, code := jdk_38_method_2_code, exceptionTable := #[], attributes := #[] }
def k12m0 : Method := { name := "<init>", desc := "()V", sig := { parameters := [], returnType := none }, accessFlags := 1, code := some k12c0 }
/-- java/util/ArrayList -/
def k12 : Class := { plain "java/util/ArrayList" (some 8) with
  accessFlags := 33
  interfaces := #[7, 9, 10, 11]
  cf := some (fileOf pool12 10 #[.nestMembers #[290, 276, 500, 502, 262, 267]] #[{ accessFlags := 1, nameIndex := 5, descriptorIndex := 6, attributes := #[] }] 33 2 #[148, 329, 331, 333] #[{ accessFlags := 26, nameIndex := 335, descriptorIndex := 336, attributes := #[] }, { accessFlags := 26, nameIndex := 340, descriptorIndex := 51, attributes := #[] }, { accessFlags := 26, nameIndex := 17, descriptorIndex := 14, attributes := #[] }, { accessFlags := 26, nameIndex := 41, descriptorIndex := 14, attributes := #[] }, { accessFlags := 128, nameIndex := 13, descriptorIndex := 14, attributes := #[] }, { accessFlags := 2, nameIndex := 50, descriptorIndex := 51, attributes := #[] }])
  fields := #[{ name := "serialVersionUID", type := .long, accessFlags := 26, slot := 0, constantValue := 0 }, { name := "DEFAULT_CAPACITY", type := .int, accessFlags := 26, slot := 1, constantValue := 0 }, { name := "EMPTY_ELEMENTDATA", type := (.array (.object "java/lang/Object")), accessFlags := 26, slot := 2, constantValue := 0 }, { name := "DEFAULTCAPACITY_EMPTY_ELEMENTDATA", type := (.array (.object "java/lang/Object")), accessFlags := 26, slot := 3, constantValue := 0 }, { name := "elementData", type := (.array (.object "java/lang/Object")), accessFlags := 128, slot := 1, constantValue := 0 }, { name := "size", type := .int, accessFlags := 2, slot := 2, constantValue := 0 }]
  methods := #[k12m0]
  instanceTypes := #[.int, (.array (.object "java/lang/Object")), .int]
  staticTypes := #[.long, .int, (.array (.object "java/lang/Object")), (.array (.object "java/lang/Object"))]
  resolved := Array.replicate 509 none
  statics := some 0 }

def pool13 : Array CpInfo := pool [(1, .methodref 2 3), (0, .class_ 4), (0, .nameAndType 5 6), (0, u "java/lang/Object"), (0, u "<init>"), (0, u "()V"), (0, .class_ 8), (0, u "java/lang/Record")] 13

def k13c0 : Code := { maxStack := 1, maxLocals := 1, code := jdk_30_method_1_code, exceptionTable := #[], attributes := #[] }
def k13m0 : Method := { name := "<init>", desc := "()V", sig := { parameters := [], returnType := none }, accessFlags := 4, code := some k13c0 }
/-- java/lang/Record -/
def k13 : Class := { plain "java/lang/Record" (some 0) with
  accessFlags := 1057
  interfaces := #[]
  cf := some (fileOf pool13 7 #[] #[{ accessFlags := 4, nameIndex := 5, descriptorIndex := 6, attributes := #[] }] 1057 2 #[] #[])
  fields := #[]
  methods := #[k13m0]
  instanceTypes := #[]
  staticTypes := #[]
  resolved := Array.replicate 22 none
  statics := none }

def pool14 : Array CpInfo := pool [(1, .methodref 2 3), (0, .class_ 4), (0, .nameAndType 5 6), (0, u "java/lang/Record"), (0, u "<init>"), (0, u "()V"), (0, .fieldref 8 9), (0, .class_ 10), (0, .nameAndType 11 12), (0, u "com/example/nuthatch/nuthatch/planning/Placement"), (0, u "vm"), (0, u "Lcom/example/nuthatch/nuthatch/planning/PlannedVm;"), (0, .fieldref 8 14), (0, .nameAndType 15 16), (0, u "start"), (0, u "D"), (0, .fieldref 8 18), (0, .nameAndType 19 16), (0, u "finish"), (0, .fieldref 8 21), (0, .nameAndType 22 16), (0, u "spanStart"), (0, .fieldref 8 24), (0, .nameAndType 25 26), (0, u "cost"), (0, u "J"), (0, .fieldref 28 29), (0, .class_ 30), (0, .nameAndType 31 32), (0, u "com/example/nuthatch/nuthatch/planning/PlannedVm"), (0, u "number"), (0, u "I"), (12, u "(Lcom/example/nuthatch/nuthatch/planning/PlannedVm;DDDJ)V"), (4, u "(Lcom/example/nuthatch/nuthatch/planning/Placement;)Z"), (2, u "precedes")] 30

def k14c0 : Code := { maxStack := 3, maxLocals := 10, code := prog_41_method_1_code, exceptionTable := #[], attributes := #[] }
def k14m0 : Method := { name := "<init>", desc := "(Lcom/example/nuthatch/nuthatch/planning/PlannedVm;DDDJ)V", sig := { parameters := [(.object "com/example/nuthatch/nuthatch/planning/PlannedVm"), .double, .double, .double, .long], returnType := none }, accessFlags := 0, code := some k14c0 }
def k14c1 : Code := { maxStack := 4, maxLocals := 2, code := prog_41_method_4_code, exceptionTable := #[], attributes := #[] }
def k14m1 : Method := { name := "precedes", desc := "(Lcom/example/nuthatch/nuthatch/planning/Placement;)Z", sig := { parameters := [(.object "com/example/nuthatch/nuthatch/planning/Placement")], returnType := some .boolean }, accessFlags := 0, code := some k14c1 }
/-- com/example/nuthatch/nuthatch/planning/Placement -/
def k14 : Class := { plain "com/example/nuthatch/nuthatch/planning/Placement" (some 13) with
  accessFlags := 48
  interfaces := #[]
  cf := some (fileOf pool14 8 #[] #[{ accessFlags := 0, nameIndex := 5, descriptorIndex := 45, attributes := #[] }, { accessFlags := 0, nameIndex := 53, descriptorIndex := 50, attributes := #[] }] 48 2 #[] #[{ accessFlags := 18, nameIndex := 11, descriptorIndex := 12, attributes := #[] }, { accessFlags := 18, nameIndex := 15, descriptorIndex := 16, attributes := #[] }, { accessFlags := 18, nameIndex := 19, descriptorIndex := 16, attributes := #[] }, { accessFlags := 18, nameIndex := 22, descriptorIndex := 16, attributes := #[] }, { accessFlags := 18, nameIndex := 25, descriptorIndex := 26, attributes := #[] }])
  fields := #[{ name := "vm", type := (.object "com/example/nuthatch/nuthatch/planning/PlannedVm"), accessFlags := 18, slot := 0, constantValue := 0 }, { name := "start", type := .double, accessFlags := 18, slot := 1, constantValue := 0 }, { name := "finish", type := .double, accessFlags := 18, slot := 2, constantValue := 0 }, { name := "spanStart", type := .double, accessFlags := 18, slot := 3, constantValue := 0 }, { name := "cost", type := .long, accessFlags := 18, slot := 4, constantValue := 0 }]
  methods := #[k14m0, k14m1]
  instanceTypes := #[(.object "com/example/nuthatch/nuthatch/planning/PlannedVm"), .double, .double, .double, .long]
  staticTypes := #[]
  resolved := Array.replicate 84 none
  statics := none }

/-- the primitive byte -/
def k15 : Class := { plain "byte" none with kind := .primitive 'B', accessFlags := 0x411 }
/-- [B -/
def k16 : Class := { plain "[B" (some 0) with kind := .array 15 .byte, interfaces := #[10, 11], accessFlags := 1041 }

/-- the primitive int -/
def k17 : Class := { plain "int" none with kind := .primitive 'I', accessFlags := 0x411 }
/-- [I -/
def k18 : Class := { plain "[I" (some 0) with kind := .array 17 .int, interfaces := #[10, 11], accessFlags := 1041 }

/-- [Ljava/lang/Object; -/
def k19 : Class := { plain "[Ljava/lang/Object;" (some 0) with kind := .array 0 (.object "java/lang/Object"), interfaces := #[10, 11], accessFlags := 1041 }

def heap : Heap := #[{ cls := 12, slots := #[.long 0, .int 0, .ref 1, .ref 2], vm := .statics 12 },
  { cls := 19, slots := #[], vm := .none },
  { cls := 19, slots := #[], vm := .none }]
def classes : Array Class := #[k0, k1, k2, k3, k4, k5, k6, k7, k8, k9, k10, k11, k12, k13, k14, k15, k16, k17, k18, k19]
def interned : List (Array UInt16 × Addr) := []
def slotsUsed : Nat := 4
def theMethod : MethodId := ⟨1, 1⟩
def args0 : Array Value := #[.int 1, .int 2, .int 3, .int 4, .int 0, .long 5]
def aboutOver (below : List Frame) : State where
  vm := { classes := classes, interned := interned.toArray }
  heap := heap
  slotsUsed := slotsUsed
  threads := #[{ frames := .invoking theMethod args0 :: below }]
def below0 : List Frame := [.native { method := ⟨0, 0⟩, args := #[] }]
def about1 : State := aboutOver below0
def p0 : Program := .bare "" "" ""
def e0 : Env := launch0.env 0 0 0
theorem w_frames : about1.frames = Frame.invoking theMethod args0 :: below0 := rfl
set_option maxRecDepth 65536 in
theorem w_args : argsFit about1.vm theMethod args0 = true := by decide +kernel
set_option maxRecDepth 65536 in
theorem w_heap : heapFits about1 = true := by decide +kernel
set_option maxRecDepth 65536 in
theorem w_runnable : about1.curStatus? = some .runnable := by decide +kernel
set_option maxRecDepth 65536 in
theorem w_alone : about1.alone = true := by decide +kernel
set_option maxRecDepth 65536 in
theorem w_named : about1.methodNamed? x = some theMethod := by decide +kernel
set_option maxRecDepth 65536 in
theorem w_hears : about1.hears theMethod below0 = true := by decide +kernel
set_option maxRecDepth 65536 in
theorem w_ripe : about1.ripe theMethod args0 below0 = true := by decide +kernel
theorem w_running : about1.status = .running := rfl
set_option maxRecDepth 65536 in
theorem w_room : about1.hasRoom e0.platform room_1 = true :=
  launch0.hasRoom_least _ room_1 (by decide +kernel) (by decide +kernel) (by decide +kernel) (by decide +kernel) (by decide +kernel) (by decide +kernel)
theorem allAtoms_all (ts : List Jvm.Cond) (a : Array Jvm.Value) (st : Jvm.State) : (allAtoms ts).before a st = ts.all (fun c => c.before a st) := by
  induction ts with
  | nil => rfl
  | cons c t ih =>
    show (Jvm.Cond.and c (allAtoms t)).before a st = _
    rw [Jvm.Cond.before_and, ih, List.all_cons]
def words1 : List Jvm.Cond := Jvm.Cond.code x code maxLocals ret :: tables_1
/-- a 'code' word, met by the world's own term for the bytes: nothing is compared byte by byte -/
theorem code_word {y : MethodName} {bytes : ByteArray} {mx : Nat} {rt : Option FieldType} {a : Array Value} {s : State} {m : MethodId} {meth : Method} {c : Code} (h1 : s.methodNamed? y = some m) (h2 : s.vm.method? m = some meth) (h3 : meth.code = some c) (h4 : c.code = bytes)
    (h5 : (c.maxLocals == mx && c.exceptionTable.isEmpty && decide (c.maxStack ≤ mostOperands) && decide (meth.sig.returnType = rt) && !meth.locks && decide (parseMethodDescriptor y.desc = some meth.sig)) = true) : (Jvm.Cond.code y bytes mx rt).before a s = true := by
  simp only [Bool.and_eq_true, beq_iff_eq, Bool.not_eq_true', decide_eq_true_eq] at h5
  obtain ⟨⟨⟨⟨⟨g1, g2⟩, g3⟩, g4⟩, g5⟩, g6⟩ := h5
  simp [Cond.before, Cond.holds, Cond.value, h1, h2, h3, h4, g1, g2, g3, g4, g5, g6]
def isCode : Jvm.Cond → Bool
  | .code _ _ _ _ => true
  | _ => false
theorem all_split {L : List Jvm.Cond} {P : Jvm.Cond → Bool} (h1 : L.all (fun c => isCode c || P c) = true) (h2 : ∀ c ∈ L.filter isCode, P c = true) : L.all P = true := by
  refine List.all_eq_true.mpr fun c hc => ?_
  have h := List.all_eq_true.mp h1 c hc
  rcases Bool.eq_false_or_eq_true (isCode c) with hi | hi
  · exact h2 c (List.mem_filter.mpr ⟨hc, hi⟩)
  · simpa [hi] using h
set_option maxRecDepth 65536 in
theorem w_c0 : (Jvm.Cond.code x code maxLocals ret).before args0 about1 = true := code_word (m := ⟨1, 1⟩) (meth := k1m1) (c := k1c1) (by decide +kernel) rfl rfl rfl (by decide +kernel)
set_option maxRecDepth 65536 in
theorem w_c1 : (Jvm.Cond.code ({ cls := "com/example/nuthatch/nuthatch/planning/PlannedVm", name := "<init>", desc := "(Lcom/example/nuthatch/nuthatch/planning/VmTerms;ILcom/example/nuthatch/nuthatch/planning/FreeTime;Lcom/example/nuthatch/nuthatch/planning/PlannedCache;)V" } : Jvm.MethodName) prog_48_method_1_code (5 : Nat) (Option.none : Option Jvm.ClassFile.FieldType)).before args0 about1 = true := code_word (m := ⟨2, 0⟩) (meth := k2m0) (c := k2c0) (by decide +kernel) rfl rfl rfl (by decide +kernel)
set_option maxRecDepth 65536 in
theorem w_c2 : (Jvm.Cond.code ({ cls := "java/lang/Object", name := "<init>", desc := "()V" } : Jvm.MethodName) object_method_1_code (1 : Nat) (Option.none : Option Jvm.ClassFile.FieldType)).before args0 about1 = true := code_word (m := ⟨0, 0⟩) (meth := k0m0) (c := k0c0) (by decide +kernel) rfl rfl rfl (by decide +kernel)
set_option maxRecDepth 65536 in
theorem w_c3 : (Jvm.Cond.code ({ cls := "java/util/ArrayList", name := "<init>", desc := "()V" } : Jvm.MethodName) jdk_38_method_2_code (1 : Nat) (Option.none : Option Jvm.ClassFile.FieldType)).before args0 about1 = true := code_word (m := ⟨12, 0⟩) (meth := k12m0) (c := k12c0) (by decide +kernel) rfl rfl rfl (by decide +kernel)
set_option maxRecDepth 65536 in
theorem w_c4 : (Jvm.Cond.code ({ cls := "java/util/AbstractList", name := "<init>", desc := "()V" } : Jvm.MethodName) jdk_39_method_1_code (1 : Nat) (Option.none : Option Jvm.ClassFile.FieldType)).before args0 about1 = true := code_word (m := ⟨8, 0⟩) (meth := k8m0) (c := k8c0) (by decide +kernel) rfl rfl rfl (by decide +kernel)
set_option maxRecDepth 65536 in
theorem w_c5 : (Jvm.Cond.code ({ cls := "java/util/AbstractCollection", name := "<init>", desc := "()V" } : Jvm.MethodName) jdk_22_method_1_code (1 : Nat) (Option.none : Option Jvm.ClassFile.FieldType)).before args0 about1 = true := code_word (m := ⟨5, 0⟩) (meth := k5m0) (c := k5c0) (by decide +kernel) rfl rfl rfl (by decide +kernel)
set_option maxRecDepth 65536 in
theorem w_c6 : (Jvm.Cond.code ({ cls := "com/example/nuthatch/nuthatch/planning/Placement", name := "<init>", desc := "(Lcom/example/nuthatch/nuthatch/planning/PlannedVm;DDDJ)V" } : Jvm.MethodName) prog_41_method_1_code (10 : Nat) (Option.none : Option Jvm.ClassFile.FieldType)).before args0 about1 = true := code_word (m := ⟨14, 0⟩) (meth := k14m0) (c := k14c0) (by decide +kernel) rfl rfl rfl (by decide +kernel)
set_option maxRecDepth 65536 in
theorem w_c7 : (Jvm.Cond.code ({ cls := "java/lang/Record", name := "<init>", desc := "()V" } : Jvm.MethodName) jdk_30_method_1_code (1 : Nat) (Option.none : Option Jvm.ClassFile.FieldType)).before args0 about1 = true := code_word (m := ⟨13, 0⟩) (meth := k13m0) (c := k13c0) (by decide +kernel) rfl rfl rfl (by decide +kernel)
set_option maxRecDepth 65536 in
theorem w_c8 : (Jvm.Cond.code ({ cls := "com/example/nuthatch/nuthatch/planning/Placement", name := "precedes", desc := "(Lcom/example/nuthatch/nuthatch/planning/Placement;)Z" } : Jvm.MethodName) prog_41_method_4_code (2 : Nat) (Option.some Jvm.ClassFile.FieldType.boolean)).before args0 about1 = true := code_word (m := ⟨14, 1⟩) (meth := k14m1) (c := k14c1) (by decide +kernel) rfl rfl rfl (by decide +kernel)
def codes1 : List Jvm.Cond := [Jvm.Cond.code x code maxLocals ret, Jvm.Cond.code ({ cls := "com/example/nuthatch/nuthatch/planning/PlannedVm", name := "<init>", desc := "(Lcom/example/nuthatch/nuthatch/planning/VmTerms;ILcom/example/nuthatch/nuthatch/planning/FreeTime;Lcom/example/nuthatch/nuthatch/planning/PlannedCache;)V" } : Jvm.MethodName) prog_48_method_1_code (5 : Nat) (Option.none : Option Jvm.ClassFile.FieldType), Jvm.Cond.code ({ cls := "java/lang/Object", name := "<init>", desc := "()V" } : Jvm.MethodName) object_method_1_code (1 : Nat) (Option.none : Option Jvm.ClassFile.FieldType), Jvm.Cond.code ({ cls := "java/util/ArrayList", name := "<init>", desc := "()V" } : Jvm.MethodName) jdk_38_method_2_code (1 : Nat) (Option.none : Option Jvm.ClassFile.FieldType), Jvm.Cond.code ({ cls := "java/util/AbstractList", name := "<init>", desc := "()V" } : Jvm.MethodName) jdk_39_method_1_code (1 : Nat) (Option.none : Option Jvm.ClassFile.FieldType), Jvm.Cond.code ({ cls := "java/util/AbstractCollection", name := "<init>", desc := "()V" } : Jvm.MethodName) jdk_22_method_1_code (1 : Nat) (Option.none : Option Jvm.ClassFile.FieldType), Jvm.Cond.code ({ cls := "com/example/nuthatch/nuthatch/planning/Placement", name := "<init>", desc := "(Lcom/example/nuthatch/nuthatch/planning/PlannedVm;DDDJ)V" } : Jvm.MethodName) prog_41_method_1_code (10 : Nat) (Option.none : Option Jvm.ClassFile.FieldType), Jvm.Cond.code ({ cls := "java/lang/Record", name := "<init>", desc := "()V" } : Jvm.MethodName) jdk_30_method_1_code (1 : Nat) (Option.none : Option Jvm.ClassFile.FieldType), Jvm.Cond.code ({ cls := "com/example/nuthatch/nuthatch/planning/Placement", name := "precedes", desc := "(Lcom/example/nuthatch/nuthatch/planning/Placement;)Z" } : Jvm.MethodName) prog_41_method_4_code (2 : Nat) (Option.some Jvm.ClassFile.FieldType.boolean)]
set_option maxRecDepth 65536 in
theorem codes_eq : words1.filter isCode = codes1 := rfl
theorem w_codes : ∀ c ∈ words1.filter isCode, c.before args0 about1 = true := by
  rw [codes_eq]
  intro c hc
  simp only [codes1, List.mem_cons, List.not_mem_nil, or_false] at hc
  rcases hc with rfl | rfl | rfl | rfl | rfl | rfl | rfl | rfl | rfl
  · exact w_c0
  · exact w_c1
  · exact w_c2
  · exact w_c3
  · exact w_c4
  · exact w_c5
  · exact w_c6
  · exact w_c7
  · exact w_c8
set_option maxRecDepth 65536 in
theorem w_t1 : (words1.take 24).all (fun c => isCode c || c.before args0 about1) = true := by decide +kernel
set_option maxRecDepth 65536 in
theorem w_t2 : ((words1.drop 24).take 24).all (fun c => isCode c || c.before args0 about1) = true := by decide +kernel
set_option maxRecDepth 65536 in
theorem w_t3 : (((words1.drop 24).drop 24).take 24).all (fun c => isCode c || c.before args0 about1) = true := by decide +kernel
set_option maxRecDepth 65536 in
theorem w_t4 : (((words1.drop 24).drop 24).drop 24).all (fun c => isCode c || c.before args0 about1) = true := by decide +kernel
theorem w_tables : (allAtoms (Jvm.Cond.code x code maxLocals ret :: tables_1)).before args0 about1 = true := by
  rw [allAtoms_all]
  show words1.all (fun c => c.before args0 about1) = true
  refine all_split ?_ w_codes
  rw [← List.take_append_drop 24 words1, List.all_append, w_t1, ← List.take_append_drop 24 (words1.drop 24), List.all_append, w_t2, ← List.take_append_drop 24 ((words1.drop 24).drop 24), List.all_append, w_t3, w_t4]
  rfl
set_option maxRecDepth 65536 in
theorem w_rest : rest_1_c.before args0 about1 = true := by decide +kernel
set_option maxRecDepth 65536 in
theorem w_case : (Jvm.Cond.and given_1 narrow_1).before args0 about1 = true := by decide +kernel
theorem w_applies : (headSpec (Jvm.Cond.code x code maxLocals ret :: tables_1) room_1).applies x e0.platform about1 = true :=
  (Spec.applies_iff w_frames).mpr ⟨w_running, w_runnable, w_alone, w_named, w_hears, w_ripe, w_room, w_tables⟩
theorem atStart : AtStart classFile x code maxLocals ret World_1 tables_1 room_1 Calls_1 rest_1 Pre_1 launch0 p0 e0 about1 theMethod args0 below0 :=
  ⟨lists_1, trivial, launch0.admits_env _ _ _, launch0.least_env, fairChoices_fair.cas, fairChoices_fair.clock, w_frames, w_args, w_heap, w_applies, trivial, w_rest, w_case⟩
end start1
theorem witness_1 : WitnessClaimed_1 := ⟨start1.p0, start1.e0, start1.about1, start1.theMethod, start1.args0, start1.below0, start1.atStart⟩
end Jvm.Pilot.@@N@@
