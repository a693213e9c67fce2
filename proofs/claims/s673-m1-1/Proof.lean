import JvmDerived
import JvmDerived.Pilot.@@N@@Statement
import JvmDerived.Pilot.@@N@@Code
set_option linter.unusedVariables false
set_option linter.unusedSimpArgs false
namespace Jvm.RoadKit
open Sem ClassFile Op Lib Jvm.Stand Jvm.Free Jvm.LawKit
section New
variable {p : Program} {l : Launch} {e : Env} {R : Room} {s : State} {m : MethodId} {args : Array Value} {below : List Frame} {meth : Method} {c : Code} {T : State} {locs : List Loc} {cells slots : Nat}
theorem retI (X : Stand p l e R s m args below meth c T locs cells slots) (hx : p.tables.exec = Jvm.exec) {pc : Nat} {Ls : Array Slot} {z : Int32} {rest : List Value} (hret : meth.sig.returnType = some .int) (hd : decode c.code pc = .ok (.ireturn, 1)) {fs : List Frame}
    (hl : ∀ (f : JFrame) (acts : List Action), f.method = m → f.locked = none → f.entered = [] → (doReturn e (T.setTop f) acts (some (.int z))).1 = T.setFrames fs) : Steps p.tables e below (T.setTop (mkF m pc Ls (.int z :: rest))) (T.setFrames fs) := by
  have hm' : T.vm.method? m = some meth := X.method'
  have hn : narrow .int (.int z) = .int z := rfl
  show Steps p.tables e below (T.setTop { method := m, pc := pc, locals := Ls, stack := _ :: rest, locked := none }) _
  jvm_step X.here [X.here.top, hx, hd, hm', hret, hn]
  first | (intro acts; rw [hl _ acts rfl rfl rfl]) | rw [hl _ _ rfl rfl rfl]
  exact Steps.refl _
end New
end Jvm.RoadKit
namespace Jvm.Pilot.@@N@@
open Jvm Jvm.ClassFile Sem Op Lib Jvm.Free Jvm.Stand Jvm.LawKit Jvm.RoadKit Bundle Jvm.Pilot.@@N@@.Jvm.D
theorem d2_0 : decode prog_8_method_5_code 0 = .ok (.lload_n 1, 1) := by decide +kernel
theorem d2_1 : decode prog_8_method_5_code 1 = .ok (.lconst 0, 1) := by decide +kernel
theorem d2_2 : decode prog_8_method_5_code 2 = .ok (.lcmp, 1) := by decide +kernel
theorem d2_3 : decode prog_8_method_5_code 3 = .ok (.ifCond .lt 9, 3) := by decide +kernel
theorem d2_6 : decode prog_8_method_5_code 6 = .ok (.lload_n 1, 1) := by decide +kernel
theorem d2_7 : decode prog_8_method_5_code 7 = .ok (.lload_n 3, 1) := by decide +kernel
theorem d2_8 : decode prog_8_method_5_code 8 = .ok (.lcmp, 1) := by decide +kernel
theorem d2_9 : decode prog_8_method_5_code 9 = .ok (.ifCond .le 19, 3) := by decide +kernel
theorem d2_28 : decode prog_8_method_5_code 28 = .ok (.return_, 1) := by decide +kernel
def Q2 (Z : State) (r0 : Addr) (q1 : Int64) (q2 : Int64) (h0 : Heap) (n0 : Nat) (v : Option Value) (h : Heap) (L : List Loc) : Prop := v = none ∧ Fr n0 L ∧ h = h0
theorem ef_rm2 (m : MethodId) (x0 : Addr) (x1 : Int64) (x2 : Int64) : entryFrame m #[(.ref x0), (.long x1), (.long x2)] 5 = mkF m 0 #[.val (.ref x0), .val (.long x1), .second, .val (.long x2), .second] [] := by first | (simp [entryFrame, mkF, argsToLocals, Value.category]; done) | rfl
theorem pnc_com_example_fides_fides_HybridTimestamp : plainName "com/example/fides/fides/HybridTimestamp" = true := by first | (simp [plainName, overriddenIn]; done) | decide +kernel
set_option maxRecDepth 65536 in
set_option maxHeartbeats 40000000 in
theorem rm2 (l : Launch) (Z : State) (a0 : Array Value) (hw : ∀ d ∈ tables_1, d.before a0 Z = true) (ws : List Jvm.Cond) (r0 : Addr) (q1 : Int64) (q2 : Int64) (h0 : Heap) (n0 : Nat) (Z0 : n0 ≤ h0.size) (hlo : ¬ (q1 < (0 : Int64))) (hhi : ¬ (q2 < q1)) :
    MetFree l (⟨"com/example/fides/fides/HybridTimestamp", "requireInRange", "(Ljava/lang/String;JJ)V"⟩ : MethodName) (head1 (Jvm.Cond.code (⟨"com/example/fides/fides/HybridTimestamp", "requireInRange", "(Ljava/lang/String;JJ)V"⟩ : MethodName) prog_8_method_5_code 5 none :: ws) ({ frames := 0, cells := 0, slots := 0, locals := 0 } : Room)) (fun a U => a = #[(.ref r0), (.long q1), (.long q2)] ∧ Z.Warmed39 U.vm ∧ U.heap = h0) (fun _ _ _ _ _ => True) (fun _ U o U' => ∃ v L, o = .returned v ∧ Q2 Z r0 q1 q2 h0 n0 v U'.heap L ∧ FrameEnd U o U' L ({ frames := 0, cells := 0, slots := 0, locals := 0 } : Room).cells ({ frames := 0, cells := 0, slots := 0, locals := 0 } : Room).slots) := by
  refine MetFree.of_bodySF (plainFor_of_name pnc_com_example_fides_fides_HybridTimestamp) hisR ?_
  intro p e s m args below meth c s₁ Bd hml0 hP hK
  obtain ⟨rfl, hZ, hh⟩ := hP
  have hx := Bd.exec
  have hby := Bd.bytes
  have hml : c.maxLocals = 5 := hml0
  have hown : s.vm.findClass "com/example/fides/fides/HybridTimestamp" = some m.cls := findClass_of_methodNamed Bd.named
  have hnm := (name_of_methodNamed Bd.named Bd.method).1
  have X0 : Stand p l e ({ frames := 0, cells := 0, slots := 0, locals := 0 } : Room) s m #[(.ref r0), (.long q1), (.long q2)] below meth c s₁ [] 0 0 := Stand.of_body Bd
  have e0 : s₁.heap = h0 := by rw [← hh, Bd.state]; rfl
  have N0 := Fr.nil n0
  have kp0 : Keep h0 h0 [] := Keep.refl _ _
  have G0 : ∀ t, Steps p.tables e below (s₁.setTop (mkF m 0 #[.val (.ref r0), .val (.long q1), .second, .val (.long q2), .second] [])) t → Steps p.tables e below (s₁.setTop (entryFrame m #[(.ref r0), (.long q1), (.long q2)] 5)) t := fun t k => castTop (ef_rm2 m r0 q1 q2) k
  have G1 : ∀ t, Steps p.tables e below (s₁.setTop (mkF m 3 #[.val (.ref r0), .val (.long q1), .second, .val (.long q2), .second] [(.int (lcmpW q1 (0 : Int64)))])) t → Steps p.tables e below (s₁.setTop (entryFrame m #[(.ref r0), (.long q1), (.long q2)] 5)) t := by
    intro t kt
    refine G0 _ ?_
    show Steps p.tables e below (s₁.setTop (mkF m 0 #[.val (.ref r0), .val (.long q1), .second, .val (.long q2), .second] [])) _
    refine XS.lloadN X0.here hx rfl (hb hby d2_0) rfl ?_
    show Steps p.tables e below (s₁.setTop (mkF m 1 #[.val (.ref r0), .val (.long q1), .second, .val (.long q2), .second] [(.long q1)])) _
    refine XS.lconst X0.here hx rfl (hb hby d2_1) ?_
    show Steps p.tables e below (s₁.setTop (mkF m 2 #[.val (.ref r0), .val (.long q1), .second, .val (.long q2), .second] [(.long (0 : Int64)), (.long q1)])) _
    refine XS.lcmp X0.here hx rfl (hb hby d2_2) rfl ?_
    exact kt
  have hc3_2 : ¬ (q1 < (0 : Int64)) := hlo
  have G3 : ∀ t, Steps p.tables e below (s₁.setTop (mkF m 9 #[.val (.ref r0), .val (.long q1), .second, .val (.long q2), .second] [(.int (lcmpW q1 q2))])) t → Steps p.tables e below (s₁.setTop (entryFrame m #[(.ref r0), (.long q1), (.long q2)] 5)) t := by
    intro t kt
    refine G1 _ ?_
    show Steps p.tables e below (s₁.setTop (mkF m 3 #[.val (.ref r0), .val (.long q1), .second, .val (.long q2), .second] [(.int (lcmpW q1 (0 : Int64)))])) _
    refine XS.ifNo X0.here hx rfl (hb hby d2_3) rfl ((if0 _ _).trans (flt (fun q => hc3_2 ((lw_lt _ _).mp q))).1) ?_
    show Steps p.tables e below (s₁.setTop (mkF m 6 #[.val (.ref r0), .val (.long q1), .second, .val (.long q2), .second] [])) _
    refine XS.lloadN X0.here hx rfl (hb hby d2_6) rfl ?_
    show Steps p.tables e below (s₁.setTop (mkF m 7 #[.val (.ref r0), .val (.long q1), .second, .val (.long q2), .second] [(.long q1)])) _
    refine XS.lloadN X0.here hx rfl (hb hby d2_7) rfl ?_
    show Steps p.tables e below (s₁.setTop (mkF m 8 #[.val (.ref r0), .val (.long q1), .second, .val (.long q2), .second] [(.long q2), (.long q1)])) _
    refine XS.lcmp X0.here hx rfl (hb hby d2_8) rfl ?_
    exact kt
  have hc9_4 : ¬ (q2 < q1) := hhi
  obtain ⟨fs, hr, hrun, hended, hW, hsame⟩ := X0.leave (v := none) (fun _ => rfl)
  refine ⟨_, _, G3 _ ?_, hrun, hended, _, _, rfl, ?_, ⟨_, rfl⟩, hW, hsame.mono (by decide) (by decide)⟩
  · skip
    show Steps p.tables e below (s₁.setTop (mkF m 9 #[.val (.ref r0), .val (.long q1), .second, .val (.long q2), .second] [(.int (lcmpW q1 q2))])) _
    refine XS.ifYes X0.here hx rfl (pc0 := 9) (pc' := 28) rfl (hb hby d2_9) rfl ((if0 _ _).trans (flt (fun q => hc9_4 ((lw_gt _ _).mp q))).2.2.2) (by decide) (by decide) ?_
    show Steps p.tables e below (s₁.setTop (mkF m 28 #[.val (.ref r0), .val (.long q1), .second, .val (.long q2), .second] [])) _
    exact X0.returnOut hx Bd.returns (hb hby d2_28) hr
  · show Q2 Z r0 q1 q2 h0 n0 _ s₁.heap _
    rw [e0]
    exact ⟨rfl, N0, rfl⟩
theorem d3_0 : decode prog_8_method_1_code 0 = .ok (.aload_n 0, 1) := by decide +kernel
theorem d3_1 : decode prog_8_method_1_code 1 = .ok (.invokespecial 3, 3) := by decide +kernel
theorem d3_4 : decode prog_8_method_1_code 4 = .ok (.aload_n 0, 1) := by decide +kernel
theorem d3_5 : decode prog_8_method_1_code 5 = .ok (.lload_n 1, 1) := by decide +kernel
theorem d3_6 : decode prog_8_method_1_code 6 = .ok (.putfield 9, 3) := by decide +kernel
theorem d3_9 : decode prog_8_method_1_code 9 = .ok (.return_, 1) := by decide +kernel
def Q3 (Z : State) (r0 : Addr) (q1 : Int64) (h0 : Heap) (n0 : Nat) (v : Option Value) (h : Heap) (L : List Loc) : Prop := v = none ∧ Fr n0 L ∧ Keep h0 h [r0] ∧ Exa Z h r0 "com/example/fides/fides/HybridTimestamp" ∧ Fld Z h r0 "com/example/fides/fides/HybridTimestamp" "bits" "J" (.long q1)
theorem ef_rm3 (m : MethodId) (x0 : Addr) (x1 : Int64) : entryFrame m #[(.ref x0), (.long x1)] 3 = mkF m 0 #[.val (.ref x0), .val (.long x1), .second] [] := by first | (simp [entryFrame, mkF, argsToLocals, Value.category]; done) | rfl
set_option maxRecDepth 65536 in
set_option maxHeartbeats 40000000 in
theorem rm3 (l : Launch) (Z : State) (a0 : Array Value) (hw : ∀ d ∈ tables_1, d.before a0 Z = true) (ws : List Jvm.Cond) (r0 : Addr) (q1 : Int64) (h0 : Heap) (n0 : Nat) (Z0 : n0 ≤ h0.size) (F0 : Fld Z h0 r0 "com/example/fides/fides/HybridTimestamp" "bits" "J" (.long (0 : Int64))) (E0 : Exa Z h0 r0 "com/example/fides/fides/HybridTimestamp") (g_r0 : n0 ≤ r0) :
    MetFree l (⟨"com/example/fides/fides/HybridTimestamp", "<init>", "(J)V"⟩ : MethodName) (head1 (Jvm.Cond.code (⟨"com/example/fides/fides/HybridTimestamp", "<init>", "(J)V"⟩ : MethodName) prog_8_method_1_code 3 none :: ws) ({ frames := 1, cells := 0, slots := 0, locals := 12 } : Room)) (fun a U => a = #[(.ref r0), (.long q1)] ∧ Z.Warmed39 U.vm ∧ U.heap = h0) (fun _ _ _ _ _ => True) (fun _ U o U' => ∃ v L, o = .returned v ∧ Q3 Z r0 q1 h0 n0 v U'.heap L ∧ FrameEnd U o U' L ({ frames := 1, cells := 0, slots := 0, locals := 12 } : Room).cells ({ frames := 1, cells := 0, slots := 0, locals := 12 } : Room).slots) := by
  refine MetFree.of_bodySF (plainFor_of_name pnc_com_example_fides_fides_HybridTimestamp) hisR ?_
  intro p e s m args below meth c s₁ Bd hml0 hP hK
  obtain ⟨rfl, hZ, hh⟩ := hP
  have hx := Bd.exec
  have hby := Bd.bytes
  have hml : c.maxLocals = 3 := hml0
  have hown : s.vm.findClass "com/example/fides/fides/HybridTimestamp" = some m.cls := findClass_of_methodNamed Bd.named
  have hnm := (name_of_methodNamed Bd.named Bd.method).1
  have X0 : Stand p l e ({ frames := 1, cells := 0, slots := 0, locals := 12 } : Room) s m #[(.ref r0), (.long q1)] below meth c s₁ [] 0 0 := Stand.of_body Bd
  have e0 : s₁.heap = h0 := by rw [← hh, Bd.state]; rfl
  have N0 := Fr.nil n0
  have kp0 : Keep h0 h0 [r0] := Keep.refl _ _
  have G0 : ∀ t, Steps p.tables e below (s₁.setTop (mkF m 0 #[.val (.ref r0), .val (.long q1), .second] [])) t → Steps p.tables e below (s₁.setTop (entryFrame m #[(.ref r0), (.long q1)] 3)) t := fun t k => castTop (ef_rm3 m r0 q1) k
  obtain ⟨T1, X1, e1, st1⟩ := initO X0 hx hZ hown (hw _ (List.mem_of_getElem? (i := 25) rfl)) (hw _ (List.mem_of_getElem? (i := 26) rfl)) (hw _ (List.mem_of_getElem? (i := 27) rfl)) e0 (g := (mkF m 1 #[.val (.ref r0), .val (.long q1), .second] [(.ref r0)])) rfl (by rw [hml]; rfl) rfl (hb hby d3_1) (by decide) (W := 0) (by show 2 * 0 + _ ≤ _; exact Nat.le_of_eq rfl) (by decide)
  obtain ⟨T2, h2, X2, e2, W2, st2⟩ := putF X1 hx hZ hown (host := "") (Or.inl (hw _ (List.mem_of_getElem? (i := 28) rfl))) Via.refl e1 F0 E0 (Or.inr ⟨(hw _ (List.mem_of_getElem? (i := 29) rfl)), rfl, hnm⟩) (hw _ (List.mem_of_getElem? (i := 21) rfl)) (ty := .long) (by decide) rfl rfl (g := (mkF m 6 #[.val (.ref r0), .val (.long q1), .second] [(.long q1), (.ref r0)])) rfl rfl (hb hby d3_6)
  have f3 : Fld Z h2 r0 "com/example/fides/fides/HybridTimestamp" "bits" "J" (.long q1) := F0.same W2
  have f4 : Exa Z h2 r0 "com/example/fides/fides/HybridTimestamp" := E0.wr W2
  have z5 : n0 ≤ h2.size := Nat.le_trans Z0 (Nat.le_of_eq W2.size.symm)
  have kp6 : Keep h0 h2 [r0] := kp0.wr W2 (Or.inl (List.mem_of_getElem? (i := 0) rfl))
  have N2 := Fr.snoc X2 N0 g_r0
  obtain ⟨fs, hr, hrun, hended, hW, hsame⟩ := X2.leave (v := none) (fun _ => rfl)
  refine ⟨_, _, G0 _ ?_, hrun, hended, _, _, rfl, ?_, ⟨_, rfl⟩, hW, hsame.mono (by decide) (by decide)⟩
  · skip
    show Steps p.tables e below (s₁.setTop (mkF m 0 #[.val (.ref r0), .val (.long q1), .second] [])) _
    refine XS.aloadN X0.here hx rfl (hb hby d3_0) rfl rfl ?_
    show Steps p.tables e below (s₁.setTop (mkF m 1 #[.val (.ref r0), .val (.long q1), .second] [(.ref r0)])) _
    refine st1 _ ?_
    show Steps p.tables e below (T1.setTop (mkF m 4 #[.val (.ref r0), .val (.long q1), .second] [])) _
    refine XS.aloadN X1.here hx rfl (hb hby d3_4) rfl rfl ?_
    show Steps p.tables e below (T1.setTop (mkF m 5 #[.val (.ref r0), .val (.long q1), .second] [(.ref r0)])) _
    refine XS.lloadN X1.here hx rfl (hb hby d3_5) rfl ?_
    show Steps p.tables e below (T1.setTop (mkF m 6 #[.val (.ref r0), .val (.long q1), .second] [(.long q1), (.ref r0)])) _
    refine st2 _ ?_
    show Steps p.tables e below (T2.setTop (mkF m 9 #[.val (.ref r0), .val (.long q1), .second] [])) _
    exact X2.returnOut hx Bd.returns (hb hby d3_9) hr
  · show Q3 Z r0 q1 h0 n0 _ T2.heap _
    rw [e2]
    exact ⟨rfl, N2, kp6, f4, f3⟩
theorem d1_0 : decode prog_8_method_2_code 0 = .ok (.ldc 13, 2) := by decide +kernel
theorem own_satoms : ∀ d ∈ Bundle.stringAtoms, d ∈ tables_1 := by decide +kernel
theorem d1_2 : decode prog_8_method_2_code 2 = .ok (.lload_n 0, 1) := by decide +kernel
theorem d1_3 : decode prog_8_method_2_code 3 = .ok (.ldc2_w 15, 3) := by decide +kernel
theorem d1_6 : decode prog_8_method_2_code 6 = .ok (.invokestatic 17, 3) := by decide +kernel
theorem pd_0 : parseMethodDescriptor "(Ljava/lang/String;JJ)V" = some ⟨[(.object "java/lang/String"), .long, .long], none⟩ := by decide +kernel
theorem d1_9 : decode prog_8_method_2_code 9 = .ok (.ldc 21, 2) := by decide +kernel
theorem d1_11 : decode prog_8_method_2_code 11 = .ok (.iload_n 2, 1) := by decide +kernel
theorem d1_12 : decode prog_8_method_2_code 12 = .ok (.i2l, 1) := by decide +kernel
theorem d1_13 : decode prog_8_method_2_code 13 = .ok (.ldc2_w 23, 3) := by decide +kernel
theorem d1_16 : decode prog_8_method_2_code 16 = .ok (.invokestatic 17, 3) := by decide +kernel
theorem d1_19 : decode prog_8_method_2_code 19 = .ok (.new 1, 3) := by decide +kernel
theorem d1_22 : decode prog_8_method_2_code 22 = .ok (.dup, 1) := by decide +kernel
theorem d1_23 : decode prog_8_method_2_code 23 = .ok (.lload_n 0, 1) := by decide +kernel
theorem d1_24 : decode prog_8_method_2_code 24 = .ok (.bipush 16, 2) := by decide +kernel
theorem d1_26 : decode prog_8_method_2_code 26 = .ok (.lshl, 1) := by decide +kernel
theorem d1_27 : decode prog_8_method_2_code 27 = .ok (.iload_n 2, 1) := by decide +kernel
theorem d1_28 : decode prog_8_method_2_code 28 = .ok (.i2l, 1) := by decide +kernel
theorem d1_29 : decode prog_8_method_2_code 29 = .ok (.lor, 1) := by decide +kernel
theorem d1_30 : decode prog_8_method_2_code 30 = .ok (.invokespecial 25, 3) := by decide +kernel
theorem pd_1 : parseMethodDescriptor "(J)V" = some ⟨[.long], none⟩ := by decide +kernel
theorem d1_33 : decode prog_8_method_2_code 33 = .ok (.areturn, 1) := by decide +kernel
def Q1 (Z : State) (q0 : Int64) (p1 : Int32) (h0 : Heap) (n0 : Nat) (v : Option Value) (h : Heap) (L : List Loc) : Prop := ∃ b : Addr, v = some (.ref b) ∧ Fr n0 L ∧ Keep h0 h [] ∧ n0 ≤ b ∧ h0.size ≤ b ∧ Exa Z h b "com/example/fides/fides/HybridTimestamp" ∧ Fld Z h b "com/example/fides/fides/HybridTimestamp" "bits" "J" (.long ((q0 <<< ((16 : Int32) &&& 0x3f).toInt64) ||| (p1.toInt64)))
theorem ef_rm1 (m : MethodId) (x0 : Int64) (x1 : Int32) : entryFrame m #[(.long x0), (.int x1)] 3 = mkF m 0 #[.val (.long x0), .second, .val (.int x1)] [] := by first | (simp [entryFrame, mkF, argsToLocals, Value.category]; done) | rfl
set_option maxRecDepth 65536 in
set_option maxHeartbeats 40000000 in
theorem rm1 (l : Launch) (Z : State) (a0 : Array Value) (hw : ∀ d ∈ tables_1, d.before a0 Z = true) (ws : List Jvm.Cond) (q0 : Int64) (p1 : Int32) (h0 : Heap) (n0 : Nat) (Z0 : n0 ≤ h0.size) (hlo1 : ¬ (q0 < (0 : Int64))) (hhi1 : ¬ ((281474976710655 : Int64) < q0)) (hlo2 : ¬ ((p1.toInt64) < (0 : Int64))) (hhi2 : ¬ ((65535 : Int64) < (p1.toInt64))) :
    MetFree l (⟨"com/example/fides/fides/HybridTimestamp", "of", "(JI)Lcom/example/fides/fides/HybridTimestamp;"⟩ : MethodName) (head1 (Jvm.Cond.code (⟨"com/example/fides/fides/HybridTimestamp", "of", "(JI)Lcom/example/fides/fides/HybridTimestamp;"⟩ : MethodName) prog_8_method_2_code 3 (some (.object "com/example/fides/fides/HybridTimestamp")) :: ws) ({ frames := 2, cells := 5, slots := 61, locals := 27 } : Room)) (fun a U => a = #[(.long q0), (.int p1)] ∧ Z.Warmed39 U.vm ∧ U.heap = h0) (fun _ _ _ _ _ => True) (fun _ U o U' => ∃ v L, o = .returned v ∧ Q1 Z q0 p1 h0 n0 v U'.heap L ∧ ReturnedEndW U o U' L ({ frames := 2, cells := 5, slots := 61, locals := 27 } : Room).cells ({ frames := 2, cells := 5, slots := 61, locals := 27 } : Room).slots) := by
  refine MetFree.of_bodySF (plainFor_of_name pnc_com_example_fides_fides_HybridTimestamp) hisR ?_
  intro p e s m args below meth c s₁ Bd hml0 hP hK
  obtain ⟨rfl, hZ, hh⟩ := hP
  have hx := Bd.exec
  have hby := Bd.bytes
  have hml : c.maxLocals = 3 := hml0
  have hown : s.vm.findClass "com/example/fides/fides/HybridTimestamp" = some m.cls := findClass_of_methodNamed Bd.named
  have hnm := (name_of_methodNamed Bd.named Bd.method).1
  have X0 : Stand p l e ({ frames := 2, cells := 5, slots := 61, locals := 27 } : Room) s m #[(.long q0), (.int p1)] below meth c s₁ [] 0 0 := Stand.of_body Bd
  have e0 : s₁.heap = h0 := by rw [← hh, Bd.state]; rfl
  have N0 := Fr.nil n0
  have kp0 : Keep h0 h0 [] := Keep.refl _ _
  have G0 : ∀ t, Steps p.tables e below (s₁.setTop (mkF m 0 #[.val (.long q0), .second, .val (.int p1)] [])) t → Steps p.tables e below (s₁.setTop (entryFrame m #[(.long q0), (.int p1)] 3)) t := fun t k => castTop (ef_rm1 m q0 p1) k
  have X0 : Stand p l e ({ frames := 2, cells := 5, slots := 61, locals := 27 } : Room) (s.setVm s.vm) m #[(.long q0), (.int p1)] below meth c s₁ [] 0 0 := X0
  have hZ : Z.Warmed39 (s.setVm s.vm).vm := hZ
  have hown : (s.setVm s.vm).vm.findClass "com/example/fides/fides/HybridTimestamp" = some m.cls := hown
  have hS : s.Since s.vm 0 := (State.WarmedH.refl s).since 0
  have hk : 0 ≤ h0.size := Nat.zero_le _
  obtain ⟨a1, T1, h1, k1, X1, e1, E1, hS, hk, hZ, hown, st1⟩ := ldcS (s := s) X0 hx hZ hown (hw _ (List.mem_of_getElem? (i := 6) rfl)) (fun d hd => hw d (own_satoms d hd)) e0 hS hk (g := (mkF m 0 #[.val (.long q0), .second, .val (.int p1)] [])) rfl (hb hby d1_0) (n := 24) (by decide) (by decide) (by decide) (by decide)
  have z2 : n0 ≤ h1.size := Nat.le_trans Z0 E1.1
  have kp3 : Keep h0 h1 [] := kp0.ext E1
  have G4 : ∀ t, Steps p.tables e below (T1.setTop (mkF m 6 #[.val (.long q0), .second, .val (.int p1)] [(.long (281474976710655 : Int64)), (.long q0), (.ref a1)])) t → Steps p.tables e below (s₁.setTop (entryFrame m #[(.long q0), (.int p1)] 3)) t := by
    intro t kt
    refine G0 _ ?_
    show Steps p.tables e below (s₁.setTop (mkF m 0 #[.val (.long q0), .second, .val (.int p1)] [])) _
    refine st1 _ ?_
    show Steps p.tables e below (T1.setTop (mkF m 2 #[.val (.long q0), .second, .val (.int p1)] [(.ref a1)])) _
    refine XS.lloadN X1.here hx rfl (hb hby d1_2) rfl ?_
    show Steps p.tables e below (T1.setTop (mkF m 3 #[.val (.long q0), .second, .val (.int p1)] [(.long q0), (.ref a1)])) _
    refine X1.ldc2Long hx hown (mvT hZ (hw _ (List.mem_of_getElem? (i := 14) rfl))) (g := (mkF m 3 #[.val (.long q0), .second, .val (.int p1)] [(.long q0), (.ref a1)])) rfl (hb hby d1_3) _ ?_
    exact kt
  obtain ⟨_, _, ⟨T5, L5, k5, n5⟩, -, X5, ⟨Lc5, hQ5, l5, y5, z5⟩, st5⟩ := Jvm.LawKit.callS X1 hx (y := (⟨"com/example/fides/fides/HybridTimestamp", "requireInRange", "(Ljava/lang/String;JJ)V"⟩ : MethodName)) hown (mvT hZ (hw _ (List.mem_of_getElem? (i := 15) rfl))) (mvT hZ (hw _ (List.mem_of_getElem? (i := 16) rfl))) (mvT hZ (hw _ (List.mem_of_getElem? (i := 4) rfl))) (mvT hZ (hw _ (List.mem_of_getElem? (i := 17) rfl))) (by decide) (backOf (W := 0) (rm2 l Z a0 hw [] a1 q0 (281474976710655 : Int64)  h1 n0 z2 hlo1 hhi1) hZ (hw _ (List.mem_of_getElem? (i := 17) rfl)) (hw _ (List.mem_of_getElem? (i := 4) rfl)) (by decide) (by decide)) (g := (mkF m 6 #[.val (.long q0), .second, .val (.int p1)] [(.long (281474976710655 : Int64)), (.long q0), (.ref a1)])) rfl (by rw [hml]; rfl) (argsL := [(.ref a1), (.long q0), (.long (281474976710655 : Int64))]) (rest := []) (lenOf pd_0 rfl) rfl (by show 2 * 0 + _ ≤ _; exact Nat.le_of_eq rfl) (hb hby d1_6) (fun _ _ => ⟨rfl, e1, (by decide : 2 + 0 ≤ _), (by decide : 28 + 0 ≤ _)⟩)
  dsimp only [Pt.U, Pt.locs, Pt.cells, Pt.slots] at X5 l5 y5 z5 st5 hQ5
  subst l5 y5 z5
  obtain ⟨rfl, N5q, eh5⟩ := hQ5
  have N5 := Fr.app N0 N5q
  have G6 : ∀ t, Steps p.tables e below (T5.setTop (mkF m 9 #[.val (.long q0), .second, .val (.int p1)] [])) t → Steps p.tables e below (s₁.setTop (entryFrame m #[(.long q0), (.int p1)] 3)) t := by
    intro t kt
    refine G4 _ ?_
    show Steps p.tables e below (T1.setTop (mkF m 6 #[.val (.long q0), .second, .val (.int p1)] [(.long (281474976710655 : Int64)), (.long q0), (.ref a1)])) _
    refine st5 _ ?_
    exact kt
  obtain ⟨a7, T7, h7, k7, X7, e7, E7, hS, hk, hZ, hown, st7⟩ := ldcS (s := s) X5 hx hZ hown (hw _ (List.mem_of_getElem? (i := 18) rfl)) (fun d hd => hw d (own_satoms d hd)) eh5 hS hk (g := (mkF m 9 #[.val (.long q0), .second, .val (.int p1)] [])) rfl (hb hby d1_9) (n := 28) (by decide) (by decide) (by decide) (by decide)
  have z8 : n0 ≤ h7.size := Nat.le_trans z2 E7.1
  have kp9 : Keep h0 h7 [] := kp3.ext E7
  have G10 : ∀ t, Steps p.tables e below (T7.setTop (mkF m 16 #[.val (.long q0), .second, .val (.int p1)] [(.long (65535 : Int64)), (.long (p1.toInt64)), (.ref a7)])) t → Steps p.tables e below (s₁.setTop (entryFrame m #[(.long q0), (.int p1)] 3)) t := by
    intro t kt
    refine G6 _ ?_
    show Steps p.tables e below (T5.setTop (mkF m 9 #[.val (.long q0), .second, .val (.int p1)] [])) _
    refine st7 _ ?_
    show Steps p.tables e below (T7.setTop (mkF m 11 #[.val (.long q0), .second, .val (.int p1)] [(.ref a7)])) _
    refine XS.iloadN X7.here hx rfl (hb hby d1_11) rfl ?_
    show Steps p.tables e below (T7.setTop (mkF m 12 #[.val (.long q0), .second, .val (.int p1)] [(.int p1), (.ref a7)])) _
    refine XS.i2l X7.here hx rfl (hb hby d1_12) rfl ?_
    show Steps p.tables e below (T7.setTop (mkF m 13 #[.val (.long q0), .second, .val (.int p1)] [(.long (p1.toInt64)), (.ref a7)])) _
    refine X7.ldc2Long hx hown (mvT hZ (hw _ (List.mem_of_getElem? (i := 19) rfl))) (g := (mkF m 13 #[.val (.long q0), .second, .val (.int p1)] [(.long (p1.toInt64)), (.ref a7)])) rfl (hb hby d1_13) _ ?_
    exact kt
  obtain ⟨_, _, ⟨T11, L11, k11, n11⟩, -, X11, ⟨Lc11, hQ11, l11, y11, z11⟩, st11⟩ := Jvm.LawKit.callS X7 hx (y := (⟨"com/example/fides/fides/HybridTimestamp", "requireInRange", "(Ljava/lang/String;JJ)V"⟩ : MethodName)) hown (mvT hZ (hw _ (List.mem_of_getElem? (i := 15) rfl))) (mvT hZ (hw _ (List.mem_of_getElem? (i := 16) rfl))) (mvT hZ (hw _ (List.mem_of_getElem? (i := 4) rfl))) (mvT hZ (hw _ (List.mem_of_getElem? (i := 17) rfl))) (by decide) (backOf (W := 0) (rm2 l Z a0 hw [] a7 (p1.toInt64) (65535 : Int64)  h7 n0 z8 hlo2 hhi2) hZ (hw _ (List.mem_of_getElem? (i := 17) rfl)) (hw _ (List.mem_of_getElem? (i := 4) rfl)) (by decide) (by decide)) (g := (mkF m 16 #[.val (.long q0), .second, .val (.int p1)] [(.long (65535 : Int64)), (.long (p1.toInt64)), (.ref a7)])) rfl (by rw [hml]; rfl) (argsL := [(.ref a7), (.long (p1.toInt64)), (.long (65535 : Int64))]) (rest := []) (lenOf pd_0 rfl) rfl (by show 2 * 0 + _ ≤ _; exact Nat.le_of_eq rfl) (hb hby d1_16) (fun _ _ => ⟨rfl, e7, (by decide : 4 + 0 ≤ _), (by decide : 60 + 0 ≤ _)⟩)
  dsimp only [Pt.U, Pt.locs, Pt.cells, Pt.slots] at X11 l11 y11 z11 st11 hQ11
  subst l11 y11 z11
  obtain ⟨rfl, N11q, eh11⟩ := hQ11
  have N11 := Fr.app N5 N11q
  obtain ⟨T12, h12, X12, e12, E12, A12, D12, -, st12⟩ := newO X11 hx hZ hown (hw _ (List.mem_of_getElem? (i := 20) rfl)) (hw _ (List.mem_of_getElem? (i := 21) rfl)) (hw _ (List.mem_of_getElem? (i := 4) rfl)) eh11 (g := (mkF m 19 #[.val (.long q0), .second, .val (.int p1)] [])) rfl (hb hby d1_19) (by decide) (by decide)
  obtain ⟨b12, g12⟩ : ∃ z, z = h7.size := ⟨_, rfl⟩
  rw [← g12] at A12 D12 st12
  have g_b12 : n0 ≤ b12 := Nat.le_trans z8 (Nat.le_of_eq g12.symm)
  have sz_b12 : h0.size ≤ b12 := Nat.le_trans kp9.1 (Nat.le_of_eq g12.symm)
  have z13 : n0 ≤ h12.size := Nat.le_trans z8 E12.1
  have hk := Nat.le_trans hk E12.1
  have kp14 : Keep h0 h12 [] := kp9.ext E12
  have f15 : Fld Z h12 b12 "com/example/fides/fides/HybridTimestamp" "bits" "J" (.long (0 : Int64)) := D12 (Or.inr (hw _ (List.mem_of_getElem? (i := 29) rfl))) (ty := .long) (by decide)
  obtain ⟨_, _, ⟨T16, L16, k16, n16⟩, -, X16, ⟨Lc16, hQ16, l16, y16, z16⟩, st16⟩ := X12.specialBack hx (y := (⟨"com/example/fides/fides/HybridTimestamp", "<init>", "(J)V"⟩ : MethodName)) rfl hown (mvT hZ (hw _ (List.mem_of_getElem? (i := 22) rfl))) (mvT hZ (hw _ (List.mem_of_getElem? (i := 23) rfl))) (mvT hZ (hw _ (List.mem_of_getElem? (i := 24) rfl))) (by decide) (backOf (W := 1) (rm3 l Z a0 hw [] b12 ((q0 <<< ((16 : Int32) &&& 0x3f).toInt64) ||| (p1.toInt64))  h12 n0 z13 f15 A12 g_b12) hZ (hw _ (List.mem_of_getElem? (i := 24) rfl)) (hw _ (List.mem_of_getElem? (i := 4) rfl)) (by decide) (by decide)) (g := (mkF m 30 #[.val (.long q0), .second, .val (.int p1)] [(.long ((q0 <<< ((16 : Int32) &&& 0x3f).toInt64) ||| (p1.toInt64))), (.ref b12), (.ref b12)])) rfl (by rw [hml]; rfl) (Steps.refl _) (a := b12) (argsL := [(.long ((q0 <<< ((16 : Int32) &&& 0x3f).toInt64) ||| (p1.toInt64)))]) (rest := [(.ref b12)]) (lenOf pd_1 rfl) rfl (by show 2 * 0 + _ ≤ _; exact Nat.le_of_eq rfl) (hb hby d1_30) (fun _ _ => ⟨rfl, e12, (by decide : 5 + 0 ≤ _), (by decide : 61 + 0 ≤ _)⟩)
  dsimp only [Pt.U, Pt.locs, Pt.cells, Pt.slots] at X16 l16 y16 z16 st16 hQ16
  subst l16 y16 z16
  obtain ⟨rfl, N16q, K16, A16, F16_0⟩ := hQ16
  have N16 := Fr.app N11 N16q
  have f17 : Exa Z T16.heap b12 "com/example/fides/fides/HybridTimestamp" := A12.keep K16
  have z18 : n0 ≤ T16.heap.size := Nat.le_trans z13 K16.1
  have hk := Nat.le_trans hk K16.1
  have kp19 : Keep h0 T16.heap [] := kp14.trans K16 (allS (Or.inr sz_b12) all0)
  obtain ⟨fs, hr, hrun, hended, hRW⟩ := X16.leaveW (s := s) hS (by rw [show T16.heap = T16.heap from rfl]; exact hk) (v := some (.ref b12)) (fun h => by rw [Bd.returns] at h; cases h) (BodyLoose.notSynchronized Bd)
  refine ⟨_, _, G10 _ ?_, hrun, hended, _, _, rfl, ?_, hRW.1, hRW.2.1, hRW.2.2.1, hRW.2.2.2.mono (by decide) (by decide)⟩
  · skip
    show Steps p.tables e below (T7.setTop (mkF m 16 #[.val (.long q0), .second, .val (.int p1)] [(.long (65535 : Int64)), (.long (p1.toInt64)), (.ref a7)])) _
    refine st11 _ ?_
    show Steps p.tables e below (T11.setTop (mkF m 19 #[.val (.long q0), .second, .val (.int p1)] [])) _
    refine st12 _ ?_
    show Steps p.tables e below (T12.setTop (mkF m 22 #[.val (.long q0), .second, .val (.int p1)] [(.ref b12)])) _
    refine XS.dup X12.here hx rfl (hb hby d1_22) rfl rfl ?_
    show Steps p.tables e below (T12.setTop (mkF m 23 #[.val (.long q0), .second, .val (.int p1)] [(.ref b12), (.ref b12)])) _
    refine XS.lloadN X12.here hx rfl (hb hby d1_23) rfl ?_
    show Steps p.tables e below (T12.setTop (mkF m 24 #[.val (.long q0), .second, .val (.int p1)] [(.long q0), (.ref b12), (.ref b12)])) _
    refine XS.bipush X12.here hx rfl (hb hby d1_24) ?_
    show Steps p.tables e below (T12.setTop (mkF m 26 #[.val (.long q0), .second, .val (.int p1)] [(.int (16 : Int32)), (.long q0), (.ref b12), (.ref b12)])) _
    refine XS.lshl X12.here hx rfl (hb hby d1_26) rfl ?_
    show Steps p.tables e below (T12.setTop (mkF m 27 #[.val (.long q0), .second, .val (.int p1)] [(.long (q0 <<< ((16 : Int32) &&& 0x3f).toInt64)), (.ref b12), (.ref b12)])) _
    refine XS.iloadN X12.here hx rfl (hb hby d1_27) rfl ?_
    show Steps p.tables e below (T12.setTop (mkF m 28 #[.val (.long q0), .second, .val (.int p1)] [(.int p1), (.long (q0 <<< ((16 : Int32) &&& 0x3f).toInt64)), (.ref b12), (.ref b12)])) _
    refine XS.i2l X12.here hx rfl (hb hby d1_28) rfl ?_
    show Steps p.tables e below (T12.setTop (mkF m 29 #[.val (.long q0), .second, .val (.int p1)] [(.long (p1.toInt64)), (.long (q0 <<< ((16 : Int32) &&& 0x3f).toInt64)), (.ref b12), (.ref b12)])) _
    refine XS.lor X12.here hx rfl (hb hby d1_29) rfl ?_
    show Steps p.tables e below (T12.setTop (mkF m 30 #[.val (.long q0), .second, .val (.int p1)] [(.long ((q0 <<< ((16 : Int32) &&& 0x3f).toInt64) ||| (p1.toInt64))), (.ref b12), (.ref b12)])) _
    refine st16.trans ?_
    show Steps p.tables e below (T16.setTop (mkF m 33 #[.val (.long q0), .second, .val (.int p1)] [(.ref b12)])) _
    exact retOut X16 hx Bd.returns rfl (Or.inr (Or.inr (Or.inr (Or.inr ⟨rfl, rfl, rfl⟩)))) (hb hby d1_33) hr
  · show Q1 Z q0 p1 h0 n0 _ T16.heap _
    exact ⟨b12, rfl, N16, kp19, g_b12, sz_b12, f17, F16_0⟩
theorem d5_0 : decode prog_8_method_6_code 0 = .ok (.aload_n 0, 1) := by decide +kernel
theorem d5_1 : decode prog_8_method_6_code 1 = .ok (.getfield 9, 3) := by decide +kernel
theorem d5_4 : decode prog_8_method_6_code 4 = .ok (.bipush 16, 2) := by decide +kernel
theorem d5_6 : decode prog_8_method_6_code 6 = .ok (.lushr, 1) := by decide +kernel
theorem d5_7 : decode prog_8_method_6_code 7 = .ok (.lreturn, 1) := by decide +kernel
def fmillis (va : Int64) : Int64 := ((va.toUInt64 >>> ((16 : Int32) &&& 0x3f).toInt64.toUInt64).toInt64)
def Q5 (Z : State) (r0 : Addr) (va : Int64) (h0 : Heap) (n0 : Nat) (v : Option Value) (h : Heap) (L : List Loc) : Prop := v = some (.long (fmillis va)) ∧ Fr n0 L ∧ h = h0
theorem ef_rm5 (m : MethodId) (x0 : Addr) : entryFrame m #[(.ref x0)] 1 = mkF m 0 #[.val (.ref x0)] [] := by first | (simp [entryFrame, mkF, argsToLocals, Value.category]; done) | rfl
set_option maxRecDepth 65536 in
set_option maxHeartbeats 40000000 in
theorem rm5 (l : Launch) (Z : State) (a0 : Array Value) (hw : ∀ d ∈ tables_1, d.before a0 Z = true) (ws : List Jvm.Cond) (r0 : Addr) (va : Int64) (h0 : Heap) (n0 : Nat) (Z0 : n0 ≤ h0.size) (Fa : Fld Z h0 r0 "com/example/fides/fides/HybridTimestamp" "bits" "J" (.long va)) :
    MetFree l (⟨"com/example/fides/fides/HybridTimestamp", "millis", "()J"⟩ : MethodName) (head1 (Jvm.Cond.code (⟨"com/example/fides/fides/HybridTimestamp", "millis", "()J"⟩ : MethodName) prog_8_method_6_code 1 (some .long) :: ws) ({ frames := 0, cells := 0, slots := 0, locals := 0 } : Room)) (fun a U => a = #[(.ref r0)] ∧ Z.Warmed39 U.vm ∧ U.heap = h0) (fun _ _ _ _ _ => True) (fun _ U o U' => ∃ v L, o = .returned v ∧ Q5 Z r0 va h0 n0 v U'.heap L ∧ FrameEnd U o U' L ({ frames := 0, cells := 0, slots := 0, locals := 0 } : Room).cells ({ frames := 0, cells := 0, slots := 0, locals := 0 } : Room).slots) := by
  refine MetFree.of_bodySF (plainFor_of_name pnc_com_example_fides_fides_HybridTimestamp) hisR ?_
  intro p e s m args below meth c s₁ Bd hml0 hP hK
  obtain ⟨rfl, hZ, hh⟩ := hP
  have hx := Bd.exec
  have hby := Bd.bytes
  have hml : c.maxLocals = 1 := hml0
  have hown : s.vm.findClass "com/example/fides/fides/HybridTimestamp" = some m.cls := findClass_of_methodNamed Bd.named
  have hnm := (name_of_methodNamed Bd.named Bd.method).1
  have X0 : Stand p l e ({ frames := 0, cells := 0, slots := 0, locals := 0 } : Room) s m #[(.ref r0)] below meth c s₁ [] 0 0 := Stand.of_body Bd
  have e0 : s₁.heap = h0 := by rw [← hh, Bd.state]; rfl
  have N0 := Fr.nil n0
  have kp0 : Keep h0 h0 [] := Keep.refl _ _
  have G0 : ∀ t, Steps p.tables e below (s₁.setTop (mkF m 0 #[.val (.ref r0)] [])) t → Steps p.tables e below (s₁.setTop (entryFrame m #[(.ref r0)] 1)) t := fun t k => castTop (ef_rm5 m r0) k
  obtain ⟨T1, X1, e1, st1⟩ := getF X0 hx hZ hown (host := "") (Or.inl (hw _ (List.mem_of_getElem? (i := 28) rfl))) Via.refl e0 Fa (g := (mkF m 1 #[.val (.ref r0)] [(.ref r0)])) rfl rfl (hb hby d5_1)
  obtain ⟨fs, hr, hrun, hended, hW, hsame⟩ := X1.leave (v := some (.long ((va.toUInt64 >>> ((16 : Int32) &&& 0x3f).toInt64.toUInt64).toInt64))) (fun h => by rw [Bd.returns] at h; cases h)
  refine ⟨_, _, G0 _ ?_, hrun, hended, _, _, rfl, ?_, ⟨_, rfl⟩, hW, hsame.mono (by decide) (by decide)⟩
  · skip
    show Steps p.tables e below (s₁.setTop (mkF m 0 #[.val (.ref r0)] [])) _
    refine XS.aloadN X0.here hx rfl (hb hby d5_0) rfl rfl ?_
    show Steps p.tables e below (s₁.setTop (mkF m 1 #[.val (.ref r0)] [(.ref r0)])) _
    refine st1 _ ?_
    show Steps p.tables e below (T1.setTop (mkF m 4 #[.val (.ref r0)] [(.long va)])) _
    refine XS.bipush X1.here hx rfl (hb hby d5_4) ?_
    show Steps p.tables e below (T1.setTop (mkF m 6 #[.val (.ref r0)] [(.int (16 : Int32)), (.long va)])) _
    refine XS.lushr X1.here hx rfl (hb hby d5_6) rfl ?_
    show Steps p.tables e below (T1.setTop (mkF m 7 #[.val (.ref r0)] [(.long ((va.toUInt64 >>> ((16 : Int32) &&& 0x3f).toInt64.toUInt64).toInt64))])) _
    exact retOut X1 hx Bd.returns rfl (Or.inr (Or.inl ⟨rfl, rfl, _, rfl⟩)) (hb hby d5_7) hr
  · show Q5 Z r0 va h0 n0 _ T1.heap _
    rw [e1]
    exact ⟨by rw [fmillis], N0, rfl⟩
theorem d6_0 : decode prog_8_method_7_code 0 = .ok (.aload_n 0, 1) := by decide +kernel
theorem d6_1 : decode prog_8_method_7_code 1 = .ok (.getfield 9, 3) := by decide +kernel
theorem d6_4 : decode prog_8_method_7_code 4 = .ok (.ldc2_w 23, 3) := by decide +kernel
theorem d6_7 : decode prog_8_method_7_code 7 = .ok (.land, 1) := by decide +kernel
theorem d6_8 : decode prog_8_method_7_code 8 = .ok (.l2i, 1) := by decide +kernel
theorem d6_9 : decode prog_8_method_7_code 9 = .ok (.ireturn, 1) := by decide +kernel
def fcounter (va : Int64) : Int32 := ((va &&& (65535 : Int64)).toInt32)
def Q6 (Z : State) (r0 : Addr) (va : Int64) (h0 : Heap) (n0 : Nat) (v : Option Value) (h : Heap) (L : List Loc) : Prop := v = some (.int (fcounter va)) ∧ Fr n0 L ∧ h = h0
theorem ef_rm6 (m : MethodId) (x0 : Addr) : entryFrame m #[(.ref x0)] 1 = mkF m 0 #[.val (.ref x0)] [] := by first | (simp [entryFrame, mkF, argsToLocals, Value.category]; done) | rfl
set_option maxRecDepth 65536 in
set_option maxHeartbeats 40000000 in
theorem rm6 (l : Launch) (Z : State) (a0 : Array Value) (hw : ∀ d ∈ tables_1, d.before a0 Z = true) (ws : List Jvm.Cond) (r0 : Addr) (va : Int64) (h0 : Heap) (n0 : Nat) (Z0 : n0 ≤ h0.size) (Fa : Fld Z h0 r0 "com/example/fides/fides/HybridTimestamp" "bits" "J" (.long va)) :
    MetFree l (⟨"com/example/fides/fides/HybridTimestamp", "counter", "()I"⟩ : MethodName) (head1 (Jvm.Cond.code (⟨"com/example/fides/fides/HybridTimestamp", "counter", "()I"⟩ : MethodName) prog_8_method_7_code 1 (some .int) :: ws) ({ frames := 0, cells := 0, slots := 0, locals := 0 } : Room)) (fun a U => a = #[(.ref r0)] ∧ Z.Warmed39 U.vm ∧ U.heap = h0) (fun _ _ _ _ _ => True) (fun _ U o U' => ∃ v L, o = .returned v ∧ Q6 Z r0 va h0 n0 v U'.heap L ∧ FrameEnd U o U' L ({ frames := 0, cells := 0, slots := 0, locals := 0 } : Room).cells ({ frames := 0, cells := 0, slots := 0, locals := 0 } : Room).slots) := by
  refine MetFree.of_bodySF (plainFor_of_name pnc_com_example_fides_fides_HybridTimestamp) hisR ?_
  intro p e s m args below meth c s₁ Bd hml0 hP hK
  obtain ⟨rfl, hZ, hh⟩ := hP
  have hx := Bd.exec
  have hby := Bd.bytes
  have hml : c.maxLocals = 1 := hml0
  have hown : s.vm.findClass "com/example/fides/fides/HybridTimestamp" = some m.cls := findClass_of_methodNamed Bd.named
  have hnm := (name_of_methodNamed Bd.named Bd.method).1
  have X0 : Stand p l e ({ frames := 0, cells := 0, slots := 0, locals := 0 } : Room) s m #[(.ref r0)] below meth c s₁ [] 0 0 := Stand.of_body Bd
  have e0 : s₁.heap = h0 := by rw [← hh, Bd.state]; rfl
  have N0 := Fr.nil n0
  have kp0 : Keep h0 h0 [] := Keep.refl _ _
  have G0 : ∀ t, Steps p.tables e below (s₁.setTop (mkF m 0 #[.val (.ref r0)] [])) t → Steps p.tables e below (s₁.setTop (entryFrame m #[(.ref r0)] 1)) t := fun t k => castTop (ef_rm6 m r0) k
  obtain ⟨T1, X1, e1, st1⟩ := getF X0 hx hZ hown (host := "") (Or.inl (hw _ (List.mem_of_getElem? (i := 28) rfl))) Via.refl e0 Fa (g := (mkF m 1 #[.val (.ref r0)] [(.ref r0)])) rfl rfl (hb hby d6_1)
  obtain ⟨fs, hr, hrun, hended, hW, hsame⟩ := X1.leave (v := some (.int ((va &&& (65535 : Int64)).toInt32))) (fun h => by rw [Bd.returns] at h; cases h)
  refine ⟨_, _, G0 _ ?_, hrun, hended, _, _, rfl, ?_, ⟨_, rfl⟩, hW, hsame.mono (by decide) (by decide)⟩
  · skip
    show Steps p.tables e below (s₁.setTop (mkF m 0 #[.val (.ref r0)] [])) _
    refine XS.aloadN X0.here hx rfl (hb hby d6_0) rfl rfl ?_
    show Steps p.tables e below (s₁.setTop (mkF m 1 #[.val (.ref r0)] [(.ref r0)])) _
    refine st1 _ ?_
    show Steps p.tables e below (T1.setTop (mkF m 4 #[.val (.ref r0)] [(.long va)])) _
    refine X1.ldc2Long hx hown (mvT hZ (hw _ (List.mem_of_getElem? (i := 19) rfl))) (g := (mkF m 4 #[.val (.ref r0)] [(.long va)])) rfl (hb hby d6_4) _ ?_
    show Steps p.tables e below (T1.setTop (mkF m 7 #[.val (.ref r0)] [(.long (65535 : Int64)), (.long va)])) _
    refine XS.land X1.here hx rfl (hb hby d6_7) rfl ?_
    show Steps p.tables e below (T1.setTop (mkF m 8 #[.val (.ref r0)] [(.long (va &&& (65535 : Int64)))])) _
    refine XS.l2i X1.here hx rfl (hb hby d6_8) rfl ?_
    show Steps p.tables e below (T1.setTop (mkF m 9 #[.val (.ref r0)] [(.int ((va &&& (65535 : Int64)).toInt32))])) _
    exact retI X1 hx Bd.returns (hb hby d6_9) hr
  · show Q6 Z r0 va h0 n0 _ T1.heap _
    rw [e1]
    exact ⟨by rw [fcounter], N0, rfl⟩
theorem d7_0 : decode method_3_code 0 = .ok (.lload_n 0, 1) := by decide +kernel
theorem d7_1 : decode method_3_code 1 = .ok (.lload_n 3, 1) := by decide +kernel
theorem d7_2 : decode method_3_code 2 = .ok (.lcmp, 1) := by decide +kernel
theorem d7_3 : decode method_3_code 3 = .ok (.ifCond .ge 5, 3) := by decide +kernel
theorem d7_6 : decode method_3_code 6 = .ok (.iconst (-1), 1) := by decide +kernel
theorem d7_7 : decode method_3_code 7 = .ok (.ireturn, 1) := by decide +kernel
theorem d7_8 : decode method_3_code 8 = .ok (.lload_n 0, 1) := by decide +kernel
theorem d7_9 : decode method_3_code 9 = .ok (.lload_n 3, 1) := by decide +kernel
theorem d7_10 : decode method_3_code 10 = .ok (.lcmp, 1) := by decide +kernel
theorem d7_11 : decode method_3_code 11 = .ok (.ifCond .le 5, 3) := by decide +kernel
theorem d7_14 : decode method_3_code 14 = .ok (.iconst 1, 1) := by decide +kernel
theorem d7_15 : decode method_3_code 15 = .ok (.ireturn, 1) := by decide +kernel
theorem d7_16 : decode method_3_code 16 = .ok (.iload_n 2, 1) := by decide +kernel
theorem d7_17 : decode method_3_code 17 = .ok (.iload 5, 2) := by decide +kernel
theorem d7_19 : decode method_3_code 19 = .ok (.if_icmp .ge 5, 3) := by decide +kernel
theorem d7_22 : decode method_3_code 22 = .ok (.iconst (-1), 1) := by decide +kernel
theorem d7_23 : decode method_3_code 23 = .ok (.ireturn, 1) := by decide +kernel
theorem d7_24 : decode method_3_code 24 = .ok (.iload_n 2, 1) := by decide +kernel
theorem d7_25 : decode method_3_code 25 = .ok (.iload 5, 2) := by decide +kernel
theorem d7_27 : decode method_3_code 27 = .ok (.if_icmp .le 5, 3) := by decide +kernel
theorem d7_30 : decode method_3_code 30 = .ok (.iconst 1, 1) := by decide +kernel
theorem d7_31 : decode method_3_code 31 = .ok (.ireturn, 1) := by decide +kernel
theorem d7_32 : decode method_3_code 32 = .ok (.iconst 0, 1) := by decide +kernel
theorem d7_33 : decode method_3_code 33 = .ok (.ireturn, 1) := by decide +kernel
def flex (q0 : Int64) (p1 : Int32) (q2 : Int64) (p3 : Int32) : Int32 := if q0 < q2 then ((-1 : Int32)) else (if q2 < q0 then ((1 : Int32)) else (if p1 < p3 then ((-1 : Int32)) else (if p3 < p1 then ((1 : Int32)) else ((0 : Int32)))))
def Q7 (Z : State) (q0 : Int64) (p1 : Int32) (q2 : Int64) (p3 : Int32) (h0 : Heap) (n0 : Nat) (v : Option Value) (h : Heap) (L : List Loc) : Prop := v = some (.int (flex q0 p1 q2 p3)) ∧ Fr n0 L ∧ h = h0
theorem ef_rm7 (m : MethodId) (x0 : Int64) (x1 : Int32) (x2 : Int64) (x3 : Int32) : entryFrame m #[(.long x0), (.int x1), (.long x2), (.int x3)] 6 = mkF m 0 #[.val (.long x0), .second, .val (.int x1), .val (.long x2), .second, .val (.int x3)] [] := by first | (simp [entryFrame, mkF, argsToLocals, Value.category]; done) | rfl
theorem pnc_com_example_fides_fides_HybridTimestampOfPinLaw : plainName "com/example/fides/fides/HybridTimestampOfPinLaw" = true := by first | (simp [plainName, overriddenIn]; done) | decide +kernel
set_option maxRecDepth 65536 in
set_option maxHeartbeats 40000000 in
theorem rm7 (l : Launch) (Z : State) (a0 : Array Value) (hw : ∀ d ∈ tables_1, d.before a0 Z = true) (ws : List Jvm.Cond) (q0 : Int64) (p1 : Int32) (q2 : Int64) (p3 : Int32) (h0 : Heap) (n0 : Nat) (Z0 : n0 ≤ h0.size) :
    MetFree l (⟨"com/example/fides/fides/HybridTimestampOfPinLaw", "lexCompare", "(JIJI)I"⟩ : MethodName) (head1 (Jvm.Cond.code (⟨"com/example/fides/fides/HybridTimestampOfPinLaw", "lexCompare", "(JIJI)I"⟩ : MethodName) method_3_code 6 (some .int) :: ws) ({ frames := 0, cells := 0, slots := 0, locals := 0 } : Room)) (fun a U => a = #[(.long q0), (.int p1), (.long q2), (.int p3)] ∧ Z.Warmed39 U.vm ∧ U.heap = h0) (fun _ _ _ _ _ => True) (fun _ U o U' => ∃ v L, o = .returned v ∧ Q7 Z q0 p1 q2 p3 h0 n0 v U'.heap L ∧ FrameEnd U o U' L ({ frames := 0, cells := 0, slots := 0, locals := 0 } : Room).cells ({ frames := 0, cells := 0, slots := 0, locals := 0 } : Room).slots) := by
  refine MetFree.of_bodySF (plainFor_of_name pnc_com_example_fides_fides_HybridTimestampOfPinLaw) hisR ?_
  intro p e s m args below meth c s₁ Bd hml0 hP hK
  obtain ⟨rfl, hZ, hh⟩ := hP
  have hx := Bd.exec
  have hby := Bd.bytes
  have hml : c.maxLocals = 6 := hml0
  have hown : s.vm.findClass "com/example/fides/fides/HybridTimestampOfPinLaw" = some m.cls := findClass_of_methodNamed Bd.named
  have hnm := (name_of_methodNamed Bd.named Bd.method).1
  have X0 : Stand p l e ({ frames := 0, cells := 0, slots := 0, locals := 0 } : Room) s m #[(.long q0), (.int p1), (.long q2), (.int p3)] below meth c s₁ [] 0 0 := Stand.of_body Bd
  have e0 : s₁.heap = h0 := by rw [← hh, Bd.state]; rfl
  have N0 := Fr.nil n0
  have kp0 : Keep h0 h0 [] := Keep.refl _ _
  have G0 : ∀ t, Steps p.tables e below (s₁.setTop (mkF m 0 #[.val (.long q0), .second, .val (.int p1), .val (.long q2), .second, .val (.int p3)] [])) t → Steps p.tables e below (s₁.setTop (entryFrame m #[(.long q0), (.int p1), (.long q2), (.int p3)] 6)) t := fun t k => castTop (ef_rm7 m q0 p1 q2 p3) k
  have G1 : ∀ t, Steps p.tables e below (s₁.setTop (mkF m 3 #[.val (.long q0), .second, .val (.int p1), .val (.long q2), .second, .val (.int p3)] [(.int (lcmpW q0 q2))])) t → Steps p.tables e below (s₁.setTop (entryFrame m #[(.long q0), (.int p1), (.long q2), (.int p3)] 6)) t := by
    intro t kt
    refine G0 _ ?_
    show Steps p.tables e below (s₁.setTop (mkF m 0 #[.val (.long q0), .second, .val (.int p1), .val (.long q2), .second, .val (.int p3)] [])) _
    refine XS.lloadN X0.here hx rfl (hb hby d7_0) rfl ?_
    show Steps p.tables e below (s₁.setTop (mkF m 1 #[.val (.long q0), .second, .val (.int p1), .val (.long q2), .second, .val (.int p3)] [(.long q0)])) _
    refine XS.lloadN X0.here hx rfl (hb hby d7_1) rfl ?_
    show Steps p.tables e below (s₁.setTop (mkF m 2 #[.val (.long q0), .second, .val (.int p1), .val (.long q2), .second, .val (.int p3)] [(.long q2), (.long q0)])) _
    refine XS.lcmp X0.here hx rfl (hb hby d7_2) rfl ?_
    exact kt
  by_cases hc3_2 : q0 < q2
  · skip
    obtain ⟨fs, hr, hrun, hended, hW, hsame⟩ := X0.leave (v := some (.int (-1 : Int32))) (fun h => by rw [Bd.returns] at h; cases h)
    refine ⟨_, _, G1 _ ?_, hrun, hended, _, _, rfl, ?_, ⟨_, rfl⟩, hW, hsame.mono (by decide) (by decide)⟩
    · skip
      show Steps p.tables e below (s₁.setTop (mkF m 3 #[.val (.long q0), .second, .val (.int p1), .val (.long q2), .second, .val (.int p3)] [(.int (lcmpW q0 q2))])) _
      refine XS.ifNo X0.here hx rfl (hb hby d7_3) rfl ((if0 _ _).trans (tlt ((lw_lt _ _).mpr hc3_2)).2.1) ?_
      show Steps p.tables e below (s₁.setTop (mkF m 6 #[.val (.long q0), .second, .val (.int p1), .val (.long q2), .second, .val (.int p3)] [])) _
      refine XS.iconst X0.here hx rfl (hb hby d7_6) ?_
      show Steps p.tables e below (s₁.setTop (mkF m 7 #[.val (.long q0), .second, .val (.int p1), .val (.long q2), .second, .val (.int p3)] [(.int (-1 : Int32))])) _
      exact retI X0 hx Bd.returns (hb hby d7_7) hr
    · show Q7 Z q0 p1 q2 p3 h0 n0 _ s₁.heap _
      rw [e0]
      exact ⟨by rw [flex, if_pos hc3_2], N0, rfl⟩
  · skip
    have G3 : ∀ t, Steps p.tables e below (s₁.setTop (mkF m 11 #[.val (.long q0), .second, .val (.int p1), .val (.long q2), .second, .val (.int p3)] [(.int (lcmpW q0 q2))])) t → Steps p.tables e below (s₁.setTop (entryFrame m #[(.long q0), (.int p1), (.long q2), (.int p3)] 6)) t := by
      intro t kt
      refine G1 _ ?_
      show Steps p.tables e below (s₁.setTop (mkF m 3 #[.val (.long q0), .second, .val (.int p1), .val (.long q2), .second, .val (.int p3)] [(.int (lcmpW q0 q2))])) _
      refine XS.ifYes X0.here hx rfl (pc0 := 3) (pc' := 8) rfl (hb hby d7_3) rfl ((if0 _ _).trans (flt (fun q => hc3_2 ((lw_lt _ _).mp q))).2.1) (by decide) (by decide) ?_
      show Steps p.tables e below (s₁.setTop (mkF m 8 #[.val (.long q0), .second, .val (.int p1), .val (.long q2), .second, .val (.int p3)] [])) _
      refine XS.lloadN X0.here hx rfl (hb hby d7_8) rfl ?_
      show Steps p.tables e below (s₁.setTop (mkF m 9 #[.val (.long q0), .second, .val (.int p1), .val (.long q2), .second, .val (.int p3)] [(.long q0)])) _
      refine XS.lloadN X0.here hx rfl (hb hby d7_9) rfl ?_
      show Steps p.tables e below (s₁.setTop (mkF m 10 #[.val (.long q0), .second, .val (.int p1), .val (.long q2), .second, .val (.int p3)] [(.long q2), (.long q0)])) _
      refine XS.lcmp X0.here hx rfl (hb hby d7_10) rfl ?_
      exact kt
    by_cases hc11_4 : q2 < q0
    · skip
      obtain ⟨fs, hr, hrun, hended, hW, hsame⟩ := X0.leave (v := some (.int (1 : Int32))) (fun h => by rw [Bd.returns] at h; cases h)
      refine ⟨_, _, G3 _ ?_, hrun, hended, _, _, rfl, ?_, ⟨_, rfl⟩, hW, hsame.mono (by decide) (by decide)⟩
      · skip
        show Steps p.tables e below (s₁.setTop (mkF m 11 #[.val (.long q0), .second, .val (.int p1), .val (.long q2), .second, .val (.int p3)] [(.int (lcmpW q0 q2))])) _
        refine XS.ifNo X0.here hx rfl (hb hby d7_11) rfl ((if0 _ _).trans (tlt ((lw_gt _ _).mpr hc11_4)).2.2.2) ?_
        show Steps p.tables e below (s₁.setTop (mkF m 14 #[.val (.long q0), .second, .val (.int p1), .val (.long q2), .second, .val (.int p3)] [])) _
        refine XS.iconst X0.here hx rfl (hb hby d7_14) ?_
        show Steps p.tables e below (s₁.setTop (mkF m 15 #[.val (.long q0), .second, .val (.int p1), .val (.long q2), .second, .val (.int p3)] [(.int (1 : Int32))])) _
        exact retI X0 hx Bd.returns (hb hby d7_15) hr
      · show Q7 Z q0 p1 q2 p3 h0 n0 _ s₁.heap _
        rw [e0]
        exact ⟨by rw [flex, if_neg hc3_2, if_pos hc11_4], N0, rfl⟩
    · skip
      have G5 : ∀ t, Steps p.tables e below (s₁.setTop (mkF m 19 #[.val (.long q0), .second, .val (.int p1), .val (.long q2), .second, .val (.int p3)] [(.int p3), (.int p1)])) t → Steps p.tables e below (s₁.setTop (entryFrame m #[(.long q0), (.int p1), (.long q2), (.int p3)] 6)) t := by
        intro t kt
        refine G3 _ ?_
        show Steps p.tables e below (s₁.setTop (mkF m 11 #[.val (.long q0), .second, .val (.int p1), .val (.long q2), .second, .val (.int p3)] [(.int (lcmpW q0 q2))])) _
        refine XS.ifYes X0.here hx rfl (pc0 := 11) (pc' := 16) rfl (hb hby d7_11) rfl ((if0 _ _).trans (flt (fun q => hc11_4 ((lw_gt _ _).mp q))).2.2.2) (by decide) (by decide) ?_
        show Steps p.tables e below (s₁.setTop (mkF m 16 #[.val (.long q0), .second, .val (.int p1), .val (.long q2), .second, .val (.int p3)] [])) _
        refine XS.iloadN X0.here hx rfl (hb hby d7_16) rfl ?_
        show Steps p.tables e below (s₁.setTop (mkF m 17 #[.val (.long q0), .second, .val (.int p1), .val (.long q2), .second, .val (.int p3)] [(.int p1)])) _
        refine XS.iload X0.here hx rfl (hb hby d7_17) rfl ?_
        exact kt
      by_cases hc19_6 : p1 < p3
      · skip
        obtain ⟨fs, hr, hrun, hended, hW, hsame⟩ := X0.leave (v := some (.int (-1 : Int32))) (fun h => by rw [Bd.returns] at h; cases h)
        refine ⟨_, _, G5 _ ?_, hrun, hended, _, _, rfl, ?_, ⟨_, rfl⟩, hW, hsame.mono (by decide) (by decide)⟩
        · skip
          show Steps p.tables e below (s₁.setTop (mkF m 19 #[.val (.long q0), .second, .val (.int p1), .val (.long q2), .second, .val (.int p3)] [(.int p3), (.int p1)])) _
          refine XS.icmpNo X0.here hx rfl (hb hby d7_19) rfl (tlt hc19_6).2.1 ?_
          show Steps p.tables e below (s₁.setTop (mkF m 22 #[.val (.long q0), .second, .val (.int p1), .val (.long q2), .second, .val (.int p3)] [])) _
          refine XS.iconst X0.here hx rfl (hb hby d7_22) ?_
          show Steps p.tables e below (s₁.setTop (mkF m 23 #[.val (.long q0), .second, .val (.int p1), .val (.long q2), .second, .val (.int p3)] [(.int (-1 : Int32))])) _
          exact retI X0 hx Bd.returns (hb hby d7_23) hr
        · show Q7 Z q0 p1 q2 p3 h0 n0 _ s₁.heap _
          rw [e0]
          exact ⟨by rw [flex, if_neg hc3_2, if_neg hc11_4, if_pos hc19_6], N0, rfl⟩
      · skip
        have G7 : ∀ t, Steps p.tables e below (s₁.setTop (mkF m 27 #[.val (.long q0), .second, .val (.int p1), .val (.long q2), .second, .val (.int p3)] [(.int p3), (.int p1)])) t → Steps p.tables e below (s₁.setTop (entryFrame m #[(.long q0), (.int p1), (.long q2), (.int p3)] 6)) t := by
          intro t kt
          refine G5 _ ?_
          show Steps p.tables e below (s₁.setTop (mkF m 19 #[.val (.long q0), .second, .val (.int p1), .val (.long q2), .second, .val (.int p3)] [(.int p3), (.int p1)])) _
          refine XS.icmpYes X0.here hx rfl (pc0 := 19) (pc' := 24) rfl (hb hby d7_19) rfl (flt hc19_6).2.1 (by decide) (by decide) ?_
          show Steps p.tables e below (s₁.setTop (mkF m 24 #[.val (.long q0), .second, .val (.int p1), .val (.long q2), .second, .val (.int p3)] [])) _
          refine XS.iloadN X0.here hx rfl (hb hby d7_24) rfl ?_
          show Steps p.tables e below (s₁.setTop (mkF m 25 #[.val (.long q0), .second, .val (.int p1), .val (.long q2), .second, .val (.int p3)] [(.int p1)])) _
          refine XS.iload X0.here hx rfl (hb hby d7_25) rfl ?_
          exact kt
        by_cases hc27_8 : p3 < p1
        · skip
          obtain ⟨fs, hr, hrun, hended, hW, hsame⟩ := X0.leave (v := some (.int (1 : Int32))) (fun h => by rw [Bd.returns] at h; cases h)
          refine ⟨_, _, G7 _ ?_, hrun, hended, _, _, rfl, ?_, ⟨_, rfl⟩, hW, hsame.mono (by decide) (by decide)⟩
          · skip
            show Steps p.tables e below (s₁.setTop (mkF m 27 #[.val (.long q0), .second, .val (.int p1), .val (.long q2), .second, .val (.int p3)] [(.int p3), (.int p1)])) _
            refine XS.icmpNo X0.here hx rfl (hb hby d7_27) rfl (tlt hc27_8).2.2.2 ?_
            show Steps p.tables e below (s₁.setTop (mkF m 30 #[.val (.long q0), .second, .val (.int p1), .val (.long q2), .second, .val (.int p3)] [])) _
            refine XS.iconst X0.here hx rfl (hb hby d7_30) ?_
            show Steps p.tables e below (s₁.setTop (mkF m 31 #[.val (.long q0), .second, .val (.int p1), .val (.long q2), .second, .val (.int p3)] [(.int (1 : Int32))])) _
            exact retI X0 hx Bd.returns (hb hby d7_31) hr
          · show Q7 Z q0 p1 q2 p3 h0 n0 _ s₁.heap _
            rw [e0]
            exact ⟨by rw [flex, if_neg hc3_2, if_neg hc11_4, if_neg hc19_6, if_pos hc27_8], N0, rfl⟩
        · skip
          obtain ⟨fs, hr, hrun, hended, hW, hsame⟩ := X0.leave (v := some (.int (0 : Int32))) (fun h => by rw [Bd.returns] at h; cases h)
          refine ⟨_, _, G7 _ ?_, hrun, hended, _, _, rfl, ?_, ⟨_, rfl⟩, hW, hsame.mono (by decide) (by decide)⟩
          · skip
            show Steps p.tables e below (s₁.setTop (mkF m 27 #[.val (.long q0), .second, .val (.int p1), .val (.long q2), .second, .val (.int p3)] [(.int p3), (.int p1)])) _
            refine XS.icmpYes X0.here hx rfl (pc0 := 27) (pc' := 32) rfl (hb hby d7_27) rfl (flt hc27_8).2.2.2 (by decide) (by decide) ?_
            show Steps p.tables e below (s₁.setTop (mkF m 32 #[.val (.long q0), .second, .val (.int p1), .val (.long q2), .second, .val (.int p3)] [])) _
            refine XS.iconst X0.here hx rfl (hb hby d7_32) ?_
            show Steps p.tables e below (s₁.setTop (mkF m 33 #[.val (.long q0), .second, .val (.int p1), .val (.long q2), .second, .val (.int p3)] [(.int (0 : Int32))])) _
            exact retI X0 hx Bd.returns (hb hby d7_33) hr
          · show Q7 Z q0 p1 q2 p3 h0 n0 _ s₁.heap _
            rw [e0]
            exact ⟨by rw [flex, if_neg hc3_2, if_neg hc11_4, if_neg hc19_6, if_neg hc27_8], N0, rfl⟩
theorem d11_0 : decode method_4_code 0 = .ok (.iload_n 0, 1) := by decide +kernel
theorem d11_1 : decode method_4_code 1 = .ok (.ifCond .ge 5, 3) := by decide +kernel
theorem d11_4 : decode method_4_code 4 = .ok (.iconst (-1), 1) := by decide +kernel
theorem d11_5 : decode method_4_code 5 = .ok (.ireturn, 1) := by decide +kernel
theorem d11_6 : decode method_4_code 6 = .ok (.iload_n 0, 1) := by decide +kernel
theorem d11_7 : decode method_4_code 7 = .ok (.ifCond .le 5, 3) := by decide +kernel
theorem d11_10 : decode method_4_code 10 = .ok (.iconst 1, 1) := by decide +kernel
theorem d11_11 : decode method_4_code 11 = .ok (.ireturn, 1) := by decide +kernel
theorem d11_12 : decode method_4_code 12 = .ok (.iconst 0, 1) := by decide +kernel
theorem d11_13 : decode method_4_code 13 = .ok (.ireturn, 1) := by decide +kernel
def fsign (p0 : Int32) : Int32 := if p0 < (0 : Int32) then ((-1 : Int32)) else (if (0 : Int32) < p0 then ((1 : Int32)) else ((0 : Int32)))
def Q11 (Z : State) (p0 : Int32) (h0 : Heap) (n0 : Nat) (v : Option Value) (h : Heap) (L : List Loc) : Prop := v = some (.int (fsign p0)) ∧ Fr n0 L ∧ h = h0
theorem ef_rm11 (m : MethodId) (x0 : Int32) : entryFrame m #[(.int x0)] 1 = mkF m 0 #[.val (.int x0)] [] := by first | (simp [entryFrame, mkF, argsToLocals, Value.category]; done) | rfl
set_option maxRecDepth 65536 in
set_option maxHeartbeats 40000000 in
theorem rm11 (l : Launch) (Z : State) (a0 : Array Value) (hw : ∀ d ∈ tables_1, d.before a0 Z = true) (ws : List Jvm.Cond) (p0 : Int32) (h0 : Heap) (n0 : Nat) (Z0 : n0 ≤ h0.size) :
    MetFree l (⟨"com/example/fides/fides/HybridTimestampOfPinLaw", "sign", "(I)I"⟩ : MethodName) (head1 (Jvm.Cond.code (⟨"com/example/fides/fides/HybridTimestampOfPinLaw", "sign", "(I)I"⟩ : MethodName) method_4_code 1 (some .int) :: ws) ({ frames := 0, cells := 0, slots := 0, locals := 0 } : Room)) (fun a U => a = #[(.int p0)] ∧ Z.Warmed39 U.vm ∧ U.heap = h0) (fun _ _ _ _ _ => True) (fun _ U o U' => ∃ v L, o = .returned v ∧ Q11 Z p0 h0 n0 v U'.heap L ∧ FrameEnd U o U' L ({ frames := 0, cells := 0, slots := 0, locals := 0 } : Room).cells ({ frames := 0, cells := 0, slots := 0, locals := 0 } : Room).slots) := by
  refine MetFree.of_bodySF (plainFor_of_name pnc_com_example_fides_fides_HybridTimestampOfPinLaw) hisR ?_
  intro p e s m args below meth c s₁ Bd hml0 hP hK
  obtain ⟨rfl, hZ, hh⟩ := hP
  have hx := Bd.exec
  have hby := Bd.bytes
  have hml : c.maxLocals = 1 := hml0
  have hown : s.vm.findClass "com/example/fides/fides/HybridTimestampOfPinLaw" = some m.cls := findClass_of_methodNamed Bd.named
  have hnm := (name_of_methodNamed Bd.named Bd.method).1
  have X0 : Stand p l e ({ frames := 0, cells := 0, slots := 0, locals := 0 } : Room) s m #[(.int p0)] below meth c s₁ [] 0 0 := Stand.of_body Bd
  have e0 : s₁.heap = h0 := by rw [← hh, Bd.state]; rfl
  have N0 := Fr.nil n0
  have kp0 : Keep h0 h0 [] := Keep.refl _ _
  have G0 : ∀ t, Steps p.tables e below (s₁.setTop (mkF m 0 #[.val (.int p0)] [])) t → Steps p.tables e below (s₁.setTop (entryFrame m #[(.int p0)] 1)) t := fun t k => castTop (ef_rm11 m p0) k
  have G1 : ∀ t, Steps p.tables e below (s₁.setTop (mkF m 1 #[.val (.int p0)] [(.int p0)])) t → Steps p.tables e below (s₁.setTop (entryFrame m #[(.int p0)] 1)) t := by
    intro t kt
    refine G0 _ ?_
    show Steps p.tables e below (s₁.setTop (mkF m 0 #[.val (.int p0)] [])) _
    refine XS.iloadN X0.here hx rfl (hb hby d11_0) rfl ?_
    exact kt
  by_cases hc1_2 : p0 < (0 : Int32)
  · skip
    obtain ⟨fs, hr, hrun, hended, hW, hsame⟩ := X0.leave (v := some (.int (-1 : Int32))) (fun h => by rw [Bd.returns] at h; cases h)
    refine ⟨_, _, G1 _ ?_, hrun, hended, _, _, rfl, ?_, ⟨_, rfl⟩, hW, hsame.mono (by decide) (by decide)⟩
    · skip
      show Steps p.tables e below (s₁.setTop (mkF m 1 #[.val (.int p0)] [(.int p0)])) _
      refine XS.ifNo X0.here hx rfl (hb hby d11_1) rfl ((if0 _ _).trans (tlt hc1_2).2.1) ?_
      show Steps p.tables e below (s₁.setTop (mkF m 4 #[.val (.int p0)] [])) _
      refine XS.iconst X0.here hx rfl (hb hby d11_4) ?_
      show Steps p.tables e below (s₁.setTop (mkF m 5 #[.val (.int p0)] [(.int (-1 : Int32))])) _
      exact retI X0 hx Bd.returns (hb hby d11_5) hr
    · show Q11 Z p0 h0 n0 _ s₁.heap _
      rw [e0]
      exact ⟨by rw [fsign, if_pos hc1_2], N0, rfl⟩
  · skip
    have G3 : ∀ t, Steps p.tables e below (s₁.setTop (mkF m 7 #[.val (.int p0)] [(.int p0)])) t → Steps p.tables e below (s₁.setTop (entryFrame m #[(.int p0)] 1)) t := by
      intro t kt
      refine G1 _ ?_
      show Steps p.tables e below (s₁.setTop (mkF m 1 #[.val (.int p0)] [(.int p0)])) _
      refine XS.ifYes X0.here hx rfl (pc0 := 1) (pc' := 6) rfl (hb hby d11_1) rfl ((if0 _ _).trans (flt hc1_2).2.1) (by decide) (by decide) ?_
      show Steps p.tables e below (s₁.setTop (mkF m 6 #[.val (.int p0)] [])) _
      refine XS.iloadN X0.here hx rfl (hb hby d11_6) rfl ?_
      exact kt
    by_cases hc7_4 : (0 : Int32) < p0
    · skip
      obtain ⟨fs, hr, hrun, hended, hW, hsame⟩ := X0.leave (v := some (.int (1 : Int32))) (fun h => by rw [Bd.returns] at h; cases h)
      refine ⟨_, _, G3 _ ?_, hrun, hended, _, _, rfl, ?_, ⟨_, rfl⟩, hW, hsame.mono (by decide) (by decide)⟩
      · skip
        show Steps p.tables e below (s₁.setTop (mkF m 7 #[.val (.int p0)] [(.int p0)])) _
        refine XS.ifNo X0.here hx rfl (hb hby d11_7) rfl ((if0 _ _).trans (tlt hc7_4).2.2.2) ?_
        show Steps p.tables e below (s₁.setTop (mkF m 10 #[.val (.int p0)] [])) _
        refine XS.iconst X0.here hx rfl (hb hby d11_10) ?_
        show Steps p.tables e below (s₁.setTop (mkF m 11 #[.val (.int p0)] [(.int (1 : Int32))])) _
        exact retI X0 hx Bd.returns (hb hby d11_11) hr
      · show Q11 Z p0 h0 n0 _ s₁.heap _
        rw [e0]
        exact ⟨by rw [fsign, if_neg hc1_2, if_pos hc7_4], N0, rfl⟩
    · skip
      obtain ⟨fs, hr, hrun, hended, hW, hsame⟩ := X0.leave (v := some (.int (0 : Int32))) (fun h => by rw [Bd.returns] at h; cases h)
      refine ⟨_, _, G3 _ ?_, hrun, hended, _, _, rfl, ?_, ⟨_, rfl⟩, hW, hsame.mono (by decide) (by decide)⟩
      · skip
        show Steps p.tables e below (s₁.setTop (mkF m 7 #[.val (.int p0)] [(.int p0)])) _
        refine XS.ifYes X0.here hx rfl (pc0 := 7) (pc' := 12) rfl (hb hby d11_7) rfl ((if0 _ _).trans (flt hc7_4).2.2.2) (by decide) (by decide) ?_
        show Steps p.tables e below (s₁.setTop (mkF m 12 #[.val (.int p0)] [])) _
        refine XS.iconst X0.here hx rfl (hb hby d11_12) ?_
        show Steps p.tables e below (s₁.setTop (mkF m 13 #[.val (.int p0)] [(.int (0 : Int32))])) _
        exact retI X0 hx Bd.returns (hb hby d11_13) hr
      · show Q11 Z p0 h0 n0 _ s₁.heap _
        rw [e0]
        exact ⟨by rw [fsign, if_neg hc1_2, if_neg hc7_4], N0, rfl⟩
theorem d10_0 : decode jdk_35_method_42_code 0 = .ok (.lload_n 0, 1) := by decide +kernel
theorem d10_1 : decode jdk_35_method_42_code 1 = .ok (.lload_n 2, 1) := by decide +kernel
theorem d10_2 : decode jdk_35_method_42_code 2 = .ok (.lcmp, 1) := by decide +kernel
theorem d10_3 : decode jdk_35_method_42_code 3 = .ok (.ifCond .ge 7, 3) := by decide +kernel
theorem d10_6 : decode jdk_35_method_42_code 6 = .ok (.iconst (-1), 1) := by decide +kernel
theorem d10_7 : decode jdk_35_method_42_code 7 = .ok (.goto 14, 3) := by decide +kernel
theorem d10_21 : decode jdk_35_method_42_code 21 = .ok (.ireturn, 1) := by decide +kernel
theorem d10_10 : decode jdk_35_method_42_code 10 = .ok (.lload_n 0, 1) := by decide +kernel
theorem d10_11 : decode jdk_35_method_42_code 11 = .ok (.lload_n 2, 1) := by decide +kernel
theorem d10_12 : decode jdk_35_method_42_code 12 = .ok (.lcmp, 1) := by decide +kernel
theorem d10_13 : decode jdk_35_method_42_code 13 = .ok (.ifCond .ne 7, 3) := by decide +kernel
theorem d10_16 : decode jdk_35_method_42_code 16 = .ok (.iconst 0, 1) := by decide +kernel
theorem d10_17 : decode jdk_35_method_42_code 17 = .ok (.goto 4, 3) := by decide +kernel
theorem d10_20 : decode jdk_35_method_42_code 20 = .ok (.iconst 1, 1) := by decide +kernel
def fcmp (q0 : Int64) (q1 : Int64) : Int32 := if q0 < q1 then ((-1 : Int32)) else (if q0 = q1 then ((0 : Int32)) else ((1 : Int32)))
def Q10 (Z : State) (q0 : Int64) (q1 : Int64) (h0 : Heap) (n0 : Nat) (v : Option Value) (h : Heap) (L : List Loc) : Prop := v = some (.int (fcmp q0 q1)) ∧ Fr n0 L ∧ h = h0
theorem ef_rm10 (m : MethodId) (x0 : Int64) (x1 : Int64) : entryFrame m #[(.long x0), (.long x1)] 4 = mkF m 0 #[.val (.long x0), .second, .val (.long x1), .second] [] := by first | (simp [entryFrame, mkF, argsToLocals, Value.category]; done) | rfl
theorem pnc_java_lang_Long : plainName "java/lang/Long" = true := by first | (simp [plainName, overriddenIn]; done) | decide +kernel
set_option maxRecDepth 65536 in
set_option maxHeartbeats 40000000 in
theorem rm10 (l : Launch) (Z : State) (a0 : Array Value) (hw : ∀ d ∈ tables_1, d.before a0 Z = true) (ws : List Jvm.Cond) (q0 : Int64) (q1 : Int64) (h0 : Heap) (n0 : Nat) (Z0 : n0 ≤ h0.size) :
    MetFree l (⟨"java/lang/Long", "compare", "(JJ)I"⟩ : MethodName) (head1 (Jvm.Cond.code (⟨"java/lang/Long", "compare", "(JJ)I"⟩ : MethodName) jdk_35_method_42_code 4 (some .int) :: ws) ({ frames := 0, cells := 0, slots := 0, locals := 0 } : Room)) (fun a U => a = #[(.long q0), (.long q1)] ∧ Z.Warmed39 U.vm ∧ U.heap = h0) (fun _ _ _ _ _ => True) (fun _ U o U' => ∃ v L, o = .returned v ∧ Q10 Z q0 q1 h0 n0 v U'.heap L ∧ FrameEnd U o U' L ({ frames := 0, cells := 0, slots := 0, locals := 0 } : Room).cells ({ frames := 0, cells := 0, slots := 0, locals := 0 } : Room).slots) := by
  refine MetFree.of_bodySF (plainFor_of_name pnc_java_lang_Long) hisR ?_
  intro p e s m args below meth c s₁ Bd hml0 hP hK
  obtain ⟨rfl, hZ, hh⟩ := hP
  have hx := Bd.exec
  have hby := Bd.bytes
  have hml : c.maxLocals = 4 := hml0
  have hown : s.vm.findClass "java/lang/Long" = some m.cls := findClass_of_methodNamed Bd.named
  have hnm := (name_of_methodNamed Bd.named Bd.method).1
  have X0 : Stand p l e ({ frames := 0, cells := 0, slots := 0, locals := 0 } : Room) s m #[(.long q0), (.long q1)] below meth c s₁ [] 0 0 := Stand.of_body Bd
  have e0 : s₁.heap = h0 := by rw [← hh, Bd.state]; rfl
  have N0 := Fr.nil n0
  have kp0 : Keep h0 h0 [] := Keep.refl _ _
  have G0 : ∀ t, Steps p.tables e below (s₁.setTop (mkF m 0 #[.val (.long q0), .second, .val (.long q1), .second] [])) t → Steps p.tables e below (s₁.setTop (entryFrame m #[(.long q0), (.long q1)] 4)) t := fun t k => castTop (ef_rm10 m q0 q1) k
  have G1 : ∀ t, Steps p.tables e below (s₁.setTop (mkF m 3 #[.val (.long q0), .second, .val (.long q1), .second] [(.int (lcmpW q0 q1))])) t → Steps p.tables e below (s₁.setTop (entryFrame m #[(.long q0), (.long q1)] 4)) t := by
    intro t kt
    refine G0 _ ?_
    show Steps p.tables e below (s₁.setTop (mkF m 0 #[.val (.long q0), .second, .val (.long q1), .second] [])) _
    refine XS.lloadN X0.here hx rfl (hb hby d10_0) rfl ?_
    show Steps p.tables e below (s₁.setTop (mkF m 1 #[.val (.long q0), .second, .val (.long q1), .second] [(.long q0)])) _
    refine XS.lloadN X0.here hx rfl (hb hby d10_1) rfl ?_
    show Steps p.tables e below (s₁.setTop (mkF m 2 #[.val (.long q0), .second, .val (.long q1), .second] [(.long q1), (.long q0)])) _
    refine XS.lcmp X0.here hx rfl (hb hby d10_2) rfl ?_
    exact kt
  by_cases hc3_2 : q0 < q1
  · skip
    obtain ⟨fs, hr, hrun, hended, hW, hsame⟩ := X0.leave (v := some (.int (-1 : Int32))) (fun h => by rw [Bd.returns] at h; cases h)
    refine ⟨_, _, G1 _ ?_, hrun, hended, _, _, rfl, ?_, ⟨_, rfl⟩, hW, hsame.mono (by decide) (by decide)⟩
    · skip
      show Steps p.tables e below (s₁.setTop (mkF m 3 #[.val (.long q0), .second, .val (.long q1), .second] [(.int (lcmpW q0 q1))])) _
      refine XS.ifNo X0.here hx rfl (hb hby d10_3) rfl ((if0 _ _).trans (tlt ((lw_lt _ _).mpr hc3_2)).2.1) ?_
      show Steps p.tables e below (s₁.setTop (mkF m 6 #[.val (.long q0), .second, .val (.long q1), .second] [])) _
      refine XS.iconst X0.here hx rfl (hb hby d10_6) ?_
      show Steps p.tables e below (s₁.setTop (mkF m 7 #[.val (.long q0), .second, .val (.long q1), .second] [(.int (-1 : Int32))])) _
      refine XS.goto X0.here hx rfl (pc0 := 7) (pc' := 21) rfl (hb hby d10_7) (by decide) (by decide) ?_
      show Steps p.tables e below (s₁.setTop (mkF m 21 #[.val (.long q0), .second, .val (.long q1), .second] [(.int (-1 : Int32))])) _
      exact retI X0 hx Bd.returns (hb hby d10_21) hr
    · show Q10 Z q0 q1 h0 n0 _ s₁.heap _
      rw [e0]
      exact ⟨by rw [fcmp, if_pos hc3_2], N0, rfl⟩
  · skip
    have G3 : ∀ t, Steps p.tables e below (s₁.setTop (mkF m 13 #[.val (.long q0), .second, .val (.long q1), .second] [(.int (lcmpW q0 q1))])) t → Steps p.tables e below (s₁.setTop (entryFrame m #[(.long q0), (.long q1)] 4)) t := by
      intro t kt
      refine G1 _ ?_
      show Steps p.tables e below (s₁.setTop (mkF m 3 #[.val (.long q0), .second, .val (.long q1), .second] [(.int (lcmpW q0 q1))])) _
      refine XS.ifYes X0.here hx rfl (pc0 := 3) (pc' := 10) rfl (hb hby d10_3) rfl ((if0 _ _).trans (flt (fun q => hc3_2 ((lw_lt _ _).mp q))).2.1) (by decide) (by decide) ?_
      show Steps p.tables e below (s₁.setTop (mkF m 10 #[.val (.long q0), .second, .val (.long q1), .second] [])) _
      refine XS.lloadN X0.here hx rfl (hb hby d10_10) rfl ?_
      show Steps p.tables e below (s₁.setTop (mkF m 11 #[.val (.long q0), .second, .val (.long q1), .second] [(.long q0)])) _
      refine XS.lloadN X0.here hx rfl (hb hby d10_11) rfl ?_
      show Steps p.tables e below (s₁.setTop (mkF m 12 #[.val (.long q0), .second, .val (.long q1), .second] [(.long q1), (.long q0)])) _
      refine XS.lcmp X0.here hx rfl (hb hby d10_12) rfl ?_
      exact kt
    by_cases hc13_4 : q0 = q1
    · skip
      obtain ⟨fs, hr, hrun, hended, hW, hsame⟩ := X0.leave (v := some (.int (0 : Int32))) (fun h => by rw [Bd.returns] at h; cases h)
      refine ⟨_, _, G3 _ ?_, hrun, hended, _, _, rfl, ?_, ⟨_, rfl⟩, hW, hsame.mono (by decide) (by decide)⟩
      · skip
        show Steps p.tables e below (s₁.setTop (mkF m 13 #[.val (.long q0), .second, .val (.long q1), .second] [(.int (lcmpW q0 q1))])) _
        refine XS.ifNo X0.here hx rfl (hb hby d10_13) rfl ((if0 _ _).trans (teq ((lw_eq _ _).mpr hc13_4)).2) ?_
        show Steps p.tables e below (s₁.setTop (mkF m 16 #[.val (.long q0), .second, .val (.long q1), .second] [])) _
        refine XS.iconst X0.here hx rfl (hb hby d10_16) ?_
        show Steps p.tables e below (s₁.setTop (mkF m 17 #[.val (.long q0), .second, .val (.long q1), .second] [(.int (0 : Int32))])) _
        refine XS.goto X0.here hx rfl (pc0 := 17) (pc' := 21) rfl (hb hby d10_17) (by decide) (by decide) ?_
        show Steps p.tables e below (s₁.setTop (mkF m 21 #[.val (.long q0), .second, .val (.long q1), .second] [(.int (0 : Int32))])) _
        exact retI X0 hx Bd.returns (hb hby d10_21) hr
      · show Q10 Z q0 q1 h0 n0 _ s₁.heap _
        rw [e0]
        exact ⟨by rw [fcmp, if_neg hc3_2, if_pos hc13_4], N0, rfl⟩
    · skip
      obtain ⟨fs, hr, hrun, hended, hW, hsame⟩ := X0.leave (v := some (.int (1 : Int32))) (fun h => by rw [Bd.returns] at h; cases h)
      refine ⟨_, _, G3 _ ?_, hrun, hended, _, _, rfl, ?_, ⟨_, rfl⟩, hW, hsame.mono (by decide) (by decide)⟩
      · skip
        show Steps p.tables e below (s₁.setTop (mkF m 13 #[.val (.long q0), .second, .val (.long q1), .second] [(.int (lcmpW q0 q1))])) _
        refine XS.ifYes X0.here hx rfl (pc0 := 13) (pc' := 20) rfl (hb hby d10_13) rfl ((if0 _ _).trans (feq (fun q => hc13_4 ((lw_eq _ _).mp q))).2) (by decide) (by decide) ?_
        show Steps p.tables e below (s₁.setTop (mkF m 20 #[.val (.long q0), .second, .val (.long q1), .second] [])) _
        refine XS.iconst X0.here hx rfl (hb hby d10_20) ?_
        show Steps p.tables e below (s₁.setTop (mkF m 21 #[.val (.long q0), .second, .val (.long q1), .second] [(.int (1 : Int32))])) _
        exact retI X0 hx Bd.returns (hb hby d10_21) hr
      · show Q10 Z q0 q1 h0 n0 _ s₁.heap _
        rw [e0]
        exact ⟨by rw [fcmp, if_neg hc3_2, if_neg hc13_4], N0, rfl⟩
theorem d9_0 : decode jdk_35_method_43_code 0 = .ok (.lload_n 0, 1) := by decide +kernel
theorem d9_1 : decode jdk_35_method_43_code 1 = .ok (.ldc2_w 168, 3) := by decide +kernel
theorem d9_4 : decode jdk_35_method_43_code 4 = .ok (.ladd, 1) := by decide +kernel
theorem d9_5 : decode jdk_35_method_43_code 5 = .ok (.lload_n 2, 1) := by decide +kernel
theorem d9_6 : decode jdk_35_method_43_code 6 = .ok (.ldc2_w 168, 3) := by decide +kernel
theorem d9_9 : decode jdk_35_method_43_code 9 = .ok (.ladd, 1) := by decide +kernel
theorem d9_10 : decode jdk_35_method_43_code 10 = .ok (.invokestatic 302, 3) := by decide +kernel
theorem pd_2 : parseMethodDescriptor "(JJ)I" = some ⟨[.long, .long], some .int⟩ := by decide +kernel
theorem d9_13 : decode jdk_35_method_43_code 13 = .ok (.ireturn, 1) := by decide +kernel
def fcu (q0 : Int64) (q1 : Int64) : Int32 := (fcmp (q0 + (-9223372036854775808 : Int64)) (q1 + (-9223372036854775808 : Int64)))
def Q9 (Z : State) (q0 : Int64) (q1 : Int64) (h0 : Heap) (n0 : Nat) (v : Option Value) (h : Heap) (L : List Loc) : Prop := v = some (.int (fcu q0 q1)) ∧ Fr n0 L ∧ h = h0
theorem ef_rm9 (m : MethodId) (x0 : Int64) (x1 : Int64) : entryFrame m #[(.long x0), (.long x1)] 4 = mkF m 0 #[.val (.long x0), .second, .val (.long x1), .second] [] := by first | (simp [entryFrame, mkF, argsToLocals, Value.category]; done) | rfl
set_option maxRecDepth 65536 in
set_option maxHeartbeats 40000000 in
theorem rm9 (l : Launch) (Z : State) (a0 : Array Value) (hw : ∀ d ∈ tables_1, d.before a0 Z = true) (ws : List Jvm.Cond) (q0 : Int64) (q1 : Int64) (h0 : Heap) (n0 : Nat) (Z0 : n0 ≤ h0.size) :
    MetFree l (⟨"java/lang/Long", "compareUnsigned", "(JJ)I"⟩ : MethodName) (head1 (Jvm.Cond.code (⟨"java/lang/Long", "compareUnsigned", "(JJ)I"⟩ : MethodName) jdk_35_method_43_code 4 (some .int) :: ws) ({ frames := 1, cells := 0, slots := 0, locals := 15 } : Room)) (fun a U => a = #[(.long q0), (.long q1)] ∧ Z.Warmed39 U.vm ∧ U.heap = h0) (fun _ _ _ _ _ => True) (fun _ U o U' => ∃ v L, o = .returned v ∧ Q9 Z q0 q1 h0 n0 v U'.heap L ∧ FrameEnd U o U' L ({ frames := 1, cells := 0, slots := 0, locals := 15 } : Room).cells ({ frames := 1, cells := 0, slots := 0, locals := 15 } : Room).slots) := by
  refine MetFree.of_bodySF (plainFor_of_name pnc_java_lang_Long) hisR ?_
  intro p e s m args below meth c s₁ Bd hml0 hP hK
  obtain ⟨rfl, hZ, hh⟩ := hP
  have hx := Bd.exec
  have hby := Bd.bytes
  have hml : c.maxLocals = 4 := hml0
  have hown : s.vm.findClass "java/lang/Long" = some m.cls := findClass_of_methodNamed Bd.named
  have hnm := (name_of_methodNamed Bd.named Bd.method).1
  have X0 : Stand p l e ({ frames := 1, cells := 0, slots := 0, locals := 15 } : Room) s m #[(.long q0), (.long q1)] below meth c s₁ [] 0 0 := Stand.of_body Bd
  have e0 : s₁.heap = h0 := by rw [← hh, Bd.state]; rfl
  have N0 := Fr.nil n0
  have kp0 : Keep h0 h0 [] := Keep.refl _ _
  have G0 : ∀ t, Steps p.tables e below (s₁.setTop (mkF m 0 #[.val (.long q0), .second, .val (.long q1), .second] [])) t → Steps p.tables e below (s₁.setTop (entryFrame m #[(.long q0), (.long q1)] 4)) t := fun t k => castTop (ef_rm9 m q0 q1) k
  obtain ⟨_, _, ⟨T1, L1, k1, n1⟩, -, X1, ⟨Lc1, hQ1, l1, y1, z1⟩, st1⟩ := Jvm.LawKit.callS X0 hx (y := (⟨"java/lang/Long", "compare", "(JJ)I"⟩ : MethodName)) hown (mvT hZ (hw _ (List.mem_of_getElem? (i := 54) rfl))) (mvT hZ (hw _ (List.mem_of_getElem? (i := 55) rfl))) (mvT hZ (hw _ (List.mem_of_getElem? (i := 51) rfl))) (mvT hZ (hw _ (List.mem_of_getElem? (i := 56) rfl))) (by decide) (backOf (W := 0) (rm10 l Z a0 hw [] (q0 + (-9223372036854775808 : Int64)) (q1 + (-9223372036854775808 : Int64))  h0 n0 Z0 ) hZ (hw _ (List.mem_of_getElem? (i := 56) rfl)) (hw _ (List.mem_of_getElem? (i := 51) rfl)) (by decide) (by decide)) (g := (mkF m 10 #[.val (.long q0), .second, .val (.long q1), .second] [(.long (q1 + (-9223372036854775808 : Int64))), (.long (q0 + (-9223372036854775808 : Int64)))])) rfl (by rw [hml]; rfl) (argsL := [(.long (q0 + (-9223372036854775808 : Int64))), (.long (q1 + (-9223372036854775808 : Int64)))]) (rest := []) (lenOf pd_2 rfl) rfl (by show 2 * 0 + _ ≤ _; exact Nat.le_of_eq rfl) (hb hby d9_10) (fun _ _ => ⟨rfl, e0, (by decide : 0 + 0 ≤ _), (by decide : 0 + 0 ≤ _)⟩)
  dsimp only [Pt.U, Pt.locs, Pt.cells, Pt.slots] at X1 l1 y1 z1 st1 hQ1
  subst l1 y1 z1
  obtain ⟨rfl, N1q, eh1⟩ := hQ1
  have N1 := Fr.app N0 N1q
  obtain ⟨fs, hr, hrun, hended, hW, hsame⟩ := X1.leave (v := some (.int (fcmp (q0 + (-9223372036854775808 : Int64)) (q1 + (-9223372036854775808 : Int64))))) (fun h => by rw [Bd.returns] at h; cases h)
  refine ⟨_, _, G0 _ ?_, hrun, hended, _, _, rfl, ?_, ⟨_, rfl⟩, hW, hsame.mono (by decide) (by decide)⟩
  · skip
    show Steps p.tables e below (s₁.setTop (mkF m 0 #[.val (.long q0), .second, .val (.long q1), .second] [])) _
    refine XS.lloadN X0.here hx rfl (hb hby d9_0) rfl ?_
    show Steps p.tables e below (s₁.setTop (mkF m 1 #[.val (.long q0), .second, .val (.long q1), .second] [(.long q0)])) _
    refine X0.ldc2Long hx hown (mvT hZ (hw _ (List.mem_of_getElem? (i := 53) rfl))) (g := (mkF m 1 #[.val (.long q0), .second, .val (.long q1), .second] [(.long q0)])) rfl (hb hby d9_1) _ ?_
    show Steps p.tables e below (s₁.setTop (mkF m 4 #[.val (.long q0), .second, .val (.long q1), .second] [(.long (-9223372036854775808 : Int64)), (.long q0)])) _
    refine XS.ladd X0.here hx rfl (hb hby d9_4) rfl ?_
    show Steps p.tables e below (s₁.setTop (mkF m 5 #[.val (.long q0), .second, .val (.long q1), .second] [(.long (q0 + (-9223372036854775808 : Int64)))])) _
    refine XS.lloadN X0.here hx rfl (hb hby d9_5) rfl ?_
    show Steps p.tables e below (s₁.setTop (mkF m 6 #[.val (.long q0), .second, .val (.long q1), .second] [(.long q1), (.long (q0 + (-9223372036854775808 : Int64)))])) _
    refine X0.ldc2Long hx hown (mvT hZ (hw _ (List.mem_of_getElem? (i := 53) rfl))) (g := (mkF m 6 #[.val (.long q0), .second, .val (.long q1), .second] [(.long q1), (.long (q0 + (-9223372036854775808 : Int64)))])) rfl (hb hby d9_6) _ ?_
    show Steps p.tables e below (s₁.setTop (mkF m 9 #[.val (.long q0), .second, .val (.long q1), .second] [(.long (-9223372036854775808 : Int64)), (.long q1), (.long (q0 + (-9223372036854775808 : Int64)))])) _
    refine XS.ladd X0.here hx rfl (hb hby d9_9) rfl ?_
    show Steps p.tables e below (s₁.setTop (mkF m 10 #[.val (.long q0), .second, .val (.long q1), .second] [(.long (q1 + (-9223372036854775808 : Int64))), (.long (q0 + (-9223372036854775808 : Int64)))])) _
    refine st1 _ ?_
    show Steps p.tables e below (T1.setTop (mkF m 13 #[.val (.long q0), .second, .val (.long q1), .second] [(.int (fcmp (q0 + (-9223372036854775808 : Int64)) (q1 + (-9223372036854775808 : Int64))))])) _
    exact retI X1 hx Bd.returns (hb hby d9_13) hr
  · show Q9 Z q0 q1 h0 n0 _ T1.heap _
    rw [eh1]
    exact ⟨by rw [fcu], N1, rfl⟩
theorem d8_0 : decode prog_8_method_11_code 0 = .ok (.aload_n 0, 1) := by decide +kernel
theorem d8_1 : decode prog_8_method_11_code 1 = .ok (.getfield 9, 3) := by decide +kernel
theorem d8_4 : decode prog_8_method_11_code 4 = .ok (.aload_n 1, 1) := by decide +kernel
theorem d8_5 : decode prog_8_method_11_code 5 = .ok (.getfield 9, 3) := by decide +kernel
theorem d8_8 : decode prog_8_method_11_code 8 = .ok (.invokestatic 66, 3) := by decide +kernel
theorem d8_11 : decode prog_8_method_11_code 11 = .ok (.ireturn, 1) := by decide +kernel
def Q8 (Z : State) (r0 : Addr) (r1 : Addr) (va vb : Int64) (h0 : Heap) (n0 : Nat) (v : Option Value) (h : Heap) (L : List Loc) : Prop := v = some (.int (fcu va vb)) ∧ Fr n0 L ∧ h = h0
theorem ef_rm8 (m : MethodId) (x0 : Addr) (x1 : Addr) : entryFrame m #[(.ref x0), (.ref x1)] 2 = mkF m 0 #[.val (.ref x0), .val (.ref x1)] [] := by first | (simp [entryFrame, mkF, argsToLocals, Value.category]; done) | rfl
set_option maxRecDepth 65536 in
set_option maxHeartbeats 40000000 in
theorem rm8 (l : Launch) (Z : State) (a0 : Array Value) (hw : ∀ d ∈ tables_1, d.before a0 Z = true) (ws : List Jvm.Cond) (r0 : Addr) (r1 : Addr) (va vb : Int64) (h0 : Heap) (n0 : Nat) (Z0 : n0 ≤ h0.size) (Fa : Fld Z h0 r0 "com/example/fides/fides/HybridTimestamp" "bits" "J" (.long va)) (Fb : Fld Z h0 r1 "com/example/fides/fides/HybridTimestamp" "bits" "J" (.long vb)) :
    MetFree l (⟨"com/example/fides/fides/HybridTimestamp", "compareTo", "(Lcom/example/fides/fides/HybridTimestamp;)I"⟩ : MethodName) (head1 (Jvm.Cond.code (⟨"com/example/fides/fides/HybridTimestamp", "compareTo", "(Lcom/example/fides/fides/HybridTimestamp;)I"⟩ : MethodName) prog_8_method_11_code 2 (some .int) :: ws) ({ frames := 2, cells := 0, slots := 0, locals := 30 } : Room)) (fun a U => a = #[(.ref r0), (.ref r1)] ∧ Z.Warmed39 U.vm ∧ U.heap = h0) (fun _ _ _ _ _ => True) (fun _ U o U' => ∃ v L, o = .returned v ∧ Q8 Z r0 r1 va vb h0 n0 v U'.heap L ∧ FrameEnd U o U' L ({ frames := 2, cells := 0, slots := 0, locals := 30 } : Room).cells ({ frames := 2, cells := 0, slots := 0, locals := 30 } : Room).slots) := by
  refine MetFree.of_bodySF (plainFor_of_name pnc_com_example_fides_fides_HybridTimestamp) hisR ?_
  intro p e s m args below meth c s₁ Bd hml0 hP hK
  obtain ⟨rfl, hZ, hh⟩ := hP
  have hx := Bd.exec
  have hby := Bd.bytes
  have hml : c.maxLocals = 2 := hml0
  have hown : s.vm.findClass "com/example/fides/fides/HybridTimestamp" = some m.cls := findClass_of_methodNamed Bd.named
  have hnm := (name_of_methodNamed Bd.named Bd.method).1
  have X0 : Stand p l e ({ frames := 2, cells := 0, slots := 0, locals := 30 } : Room) s m #[(.ref r0), (.ref r1)] below meth c s₁ [] 0 0 := Stand.of_body Bd
  have e0 : s₁.heap = h0 := by rw [← hh, Bd.state]; rfl
  have N0 := Fr.nil n0
  have kp0 : Keep h0 h0 [] := Keep.refl _ _
  have G0 : ∀ t, Steps p.tables e below (s₁.setTop (mkF m 0 #[.val (.ref r0), .val (.ref r1)] [])) t → Steps p.tables e below (s₁.setTop (entryFrame m #[(.ref r0), (.ref r1)] 2)) t := fun t k => castTop (ef_rm8 m r0 r1) k
  obtain ⟨T1, X1, e1, st1⟩ := getF X0 hx hZ hown (host := "") (Or.inl (hw _ (List.mem_of_getElem? (i := 28) rfl))) Via.refl e0 Fa (g := (mkF m 1 #[.val (.ref r0), .val (.ref r1)] [(.ref r0)])) rfl rfl (hb hby d8_1)
  obtain ⟨T2, X2, e2, st2⟩ := getF X1 hx hZ hown (host := "") (Or.inl (hw _ (List.mem_of_getElem? (i := 28) rfl))) Via.refl e1 Fb (g := (mkF m 5 #[.val (.ref r0), .val (.ref r1)] [(.ref r1), (.long va)])) rfl rfl (hb hby d8_5)
  obtain ⟨_, _, ⟨T3, L3, k3, n3⟩, -, X3, ⟨Lc3, hQ3, l3, y3, z3⟩, st3⟩ := Jvm.LawKit.callS X2 hx (y := (⟨"java/lang/Long", "compareUnsigned", "(JJ)I"⟩ : MethodName)) hown (mvT hZ (hw _ (List.mem_of_getElem? (i := 49) rfl))) (mvT hZ (hw _ (List.mem_of_getElem? (i := 50) rfl))) (mvT hZ (hw _ (List.mem_of_getElem? (i := 51) rfl))) (mvT hZ (hw _ (List.mem_of_getElem? (i := 52) rfl))) (by decide) (backOf (W := 0) (rm9 l Z a0 hw [] va vb  h0 n0 Z0 ) hZ (hw _ (List.mem_of_getElem? (i := 52) rfl)) (hw _ (List.mem_of_getElem? (i := 51) rfl)) (by decide) (by decide)) (g := (mkF m 8 #[.val (.ref r0), .val (.ref r1)] [(.long vb), (.long va)])) rfl (by rw [hml]; rfl) (argsL := [(.long va), (.long vb)]) (rest := []) (lenOf pd_2 rfl) rfl (by show 2 * 0 + _ ≤ _; exact Nat.le_of_eq rfl) (hb hby d8_8) (fun _ _ => ⟨rfl, e2, (by decide : 0 + 0 ≤ _), (by decide : 0 + 0 ≤ _)⟩)
  dsimp only [Pt.U, Pt.locs, Pt.cells, Pt.slots] at X3 l3 y3 z3 st3 hQ3
  subst l3 y3 z3
  obtain ⟨rfl, N3q, eh3⟩ := hQ3
  have N3 := Fr.app N0 N3q
  obtain ⟨fs, hr, hrun, hended, hW, hsame⟩ := X3.leave (v := some (.int (fcu va vb))) (fun h => by rw [Bd.returns] at h; cases h)
  refine ⟨_, _, G0 _ ?_, hrun, hended, _, _, rfl, ?_, ⟨_, rfl⟩, hW, hsame.mono (by decide) (by decide)⟩
  · skip
    show Steps p.tables e below (s₁.setTop (mkF m 0 #[.val (.ref r0), .val (.ref r1)] [])) _
    refine XS.aloadN X0.here hx rfl (hb hby d8_0) rfl rfl ?_
    show Steps p.tables e below (s₁.setTop (mkF m 1 #[.val (.ref r0), .val (.ref r1)] [(.ref r0)])) _
    refine st1 _ ?_
    show Steps p.tables e below (T1.setTop (mkF m 4 #[.val (.ref r0), .val (.ref r1)] [(.long va)])) _
    refine XS.aloadN X1.here hx rfl (hb hby d8_4) rfl rfl ?_
    show Steps p.tables e below (T1.setTop (mkF m 5 #[.val (.ref r0), .val (.ref r1)] [(.ref r1), (.long va)])) _
    refine st2 _ ?_
    show Steps p.tables e below (T2.setTop (mkF m 8 #[.val (.ref r0), .val (.ref r1)] [(.long vb), (.long va)])) _
    refine st3 _ ?_
    show Steps p.tables e below (T3.setTop (mkF m 11 #[.val (.ref r0), .val (.ref r1)] [(.int (fcu va vb))])) _
    exact retI X3 hx Bd.returns (hb hby d8_11) hr
  · show Q8 Z r0 r1 va vb h0 n0 _ T3.heap _
    rw [eh3]
    exact ⟨rfl, N3, rfl⟩
theorem d12_0 : decode prog_8_method_12_code 0 = .ok (.aload_n 1, 1) := by decide +kernel
theorem d12_1 : decode prog_8_method_12_code 1 = .ok (.instanceof 1, 3) := by decide +kernel
theorem d12_4 : decode prog_8_method_12_code 4 = .ok (.ifCond .eq 24, 3) := by decide +kernel
theorem d12_7 : decode prog_8_method_12_code 7 = .ok (.aload_n 1, 1) := by decide +kernel
theorem d12_8 : decode prog_8_method_12_code 8 = .ok (.checkcast 1, 3) := by decide +kernel
theorem d12_11 : decode prog_8_method_12_code 11 = .ok (.astore_n 2, 1) := by decide +kernel
theorem d12_12 : decode prog_8_method_12_code 12 = .ok (.aload_n 2, 1) := by decide +kernel
theorem d12_13 : decode prog_8_method_12_code 13 = .ok (.getfield 9, 3) := by decide +kernel
theorem d12_16 : decode prog_8_method_12_code 16 = .ok (.aload_n 0, 1) := by decide +kernel
theorem d12_17 : decode prog_8_method_12_code 17 = .ok (.getfield 9, 3) := by decide +kernel
theorem d12_20 : decode prog_8_method_12_code 20 = .ok (.lcmp, 1) := by decide +kernel
theorem d12_21 : decode prog_8_method_12_code 21 = .ok (.ifCond .ne 7, 3) := by decide +kernel
theorem d12_24 : decode prog_8_method_12_code 24 = .ok (.iconst 1, 1) := by decide +kernel
theorem d12_25 : decode prog_8_method_12_code 25 = .ok (.goto 4, 3) := by decide +kernel
theorem d12_29 : decode prog_8_method_12_code 29 = .ok (.ireturn, 1) := by decide +kernel
theorem d12_28 : decode prog_8_method_12_code 28 = .ok (.iconst 0, 1) := by decide +kernel
def fequ (va : Int64) (vb : Int64) : Int32 := if vb = va then ((1 : Int32)) else ((0 : Int32))
def Q12 (Z : State) (r0 : Addr) (r1 : Addr) (va vb : Int64) (h0 : Heap) (n0 : Nat) (v : Option Value) (h : Heap) (L : List Loc) : Prop := v = some (.int (fequ va vb)) ∧ Fr n0 L ∧ h = h0
theorem ef_rm12 (m : MethodId) (x0 : Addr) (x1 : Addr) : entryFrame m #[(.ref x0), (.ref x1)] 3 = mkF m 0 #[.val (.ref x0), .val (.ref x1), .unset] [] := by first | (simp [entryFrame, mkF, argsToLocals, Value.category]; done) | rfl
set_option maxRecDepth 65536 in
set_option maxHeartbeats 40000000 in
theorem rm12 (l : Launch) (Z : State) (a0 : Array Value) (hw : ∀ d ∈ tables_1, d.before a0 Z = true) (ws : List Jvm.Cond) (r0 : Addr) (r1 : Addr) (va vb : Int64) (h0 : Heap) (n0 : Nat) (Z0 : n0 ≤ h0.size) (Fa : Fld Z h0 r0 "com/example/fides/fides/HybridTimestamp" "bits" "J" (.long va)) (Fb : Fld Z h0 r1 "com/example/fides/fides/HybridTimestamp" "bits" "J" (.long vb)) (Eb : Exa Z h0 r1 "com/example/fides/fides/HybridTimestamp") :
    MetFree l (⟨"com/example/fides/fides/HybridTimestamp", "equals", "(Ljava/lang/Object;)Z"⟩ : MethodName) (head1 (Jvm.Cond.code (⟨"com/example/fides/fides/HybridTimestamp", "equals", "(Ljava/lang/Object;)Z"⟩ : MethodName) prog_8_method_12_code 3 (some .boolean) :: ws) ({ frames := 0, cells := 0, slots := 0, locals := 0 } : Room)) (fun a U => a = #[(.ref r0), (.ref r1)] ∧ Z.Warmed39 U.vm ∧ U.heap = h0) (fun _ _ _ _ _ => True) (fun _ U o U' => ∃ v L, o = .returned v ∧ Q12 Z r0 r1 va vb h0 n0 v U'.heap L ∧ FrameEnd U o U' L ({ frames := 0, cells := 0, slots := 0, locals := 0 } : Room).cells ({ frames := 0, cells := 0, slots := 0, locals := 0 } : Room).slots) := by
  refine MetFree.of_bodySF (plainFor_of_name pnc_com_example_fides_fides_HybridTimestamp) hisR ?_
  intro p e s m args below meth c s₁ Bd hml0 hP hK
  obtain ⟨rfl, hZ, hh⟩ := hP
  have hx := Bd.exec
  have hby := Bd.bytes
  have hml : c.maxLocals = 3 := hml0
  have hown : s.vm.findClass "com/example/fides/fides/HybridTimestamp" = some m.cls := findClass_of_methodNamed Bd.named
  have hnm := (name_of_methodNamed Bd.named Bd.method).1
  have X0 : Stand p l e ({ frames := 0, cells := 0, slots := 0, locals := 0 } : Room) s m #[(.ref r0), (.ref r1)] below meth c s₁ [] 0 0 := Stand.of_body Bd
  have e0 : s₁.heap = h0 := by rw [← hh, Bd.state]; rfl
  have N0 := Fr.nil n0
  have kp0 : Keep h0 h0 [] := Keep.refl _ _
  have G0 : ∀ t, Steps p.tables e below (s₁.setTop (mkF m 0 #[.val (.ref r0), .val (.ref r1), .unset] [])) t → Steps p.tables e below (s₁.setTop (entryFrame m #[(.ref r0), (.ref r1)] 3)) t := fun t k => castTop (ef_rm12 m r0 r1) k
  obtain ⟨T1, X1, e1, st1⟩ := instY X0 hx hZ hown (hw _ (List.mem_of_getElem? (i := 20) rfl)) e0 (Ins.self Eb) (g := (mkF m 1 #[.val (.ref r0), .val (.ref r1), .unset] [(.ref r1)])) rfl rfl (hb hby d12_1)
  have G2 : ∀ t, Steps p.tables e below (T1.setTop (mkF m 4 #[.val (.ref r0), .val (.ref r1), .unset] [(.int (1 : Int32))])) t → Steps p.tables e below (s₁.setTop (entryFrame m #[(.ref r0), (.ref r1)] 3)) t := by
    intro t kt
    refine G0 _ ?_
    show Steps p.tables e below (s₁.setTop (mkF m 0 #[.val (.ref r0), .val (.ref r1), .unset] [])) _
    refine XS.aloadN X0.here hx rfl (hb hby d12_0) rfl rfl ?_
    show Steps p.tables e below (s₁.setTop (mkF m 1 #[.val (.ref r0), .val (.ref r1), .unset] [(.ref r1)])) _
    refine st1 _ ?_
    exact kt
  obtain ⟨T3, X3, e3, st3⟩ := castY X1 hx hZ hown (hw _ (List.mem_of_getElem? (i := 20) rfl)) e1 (Ins.self Eb) (g := (mkF m 8 #[.val (.ref r0), .val (.ref r1), .unset] [(.ref r1)])) rfl rfl (hb hby d12_8)
  obtain ⟨T4, X4, e4, st4⟩ := getF X3 hx hZ hown (host := "") (Or.inl (hw _ (List.mem_of_getElem? (i := 28) rfl))) Via.refl e3 Fb (g := (mkF m 13 #[.val (.ref r0), .val (.ref r1), .val (.ref r1)] [(.ref r1)])) rfl rfl (hb hby d12_13)
  obtain ⟨T5, X5, e5, st5⟩ := getF X4 hx hZ hown (host := "") (Or.inl (hw _ (List.mem_of_getElem? (i := 28) rfl))) Via.refl e4 Fa (g := (mkF m 17 #[.val (.ref r0), .val (.ref r1), .val (.ref r1)] [(.ref r0), (.long vb)])) rfl rfl (hb hby d12_17)
  have G6 : ∀ t, Steps p.tables e below (T5.setTop (mkF m 21 #[.val (.ref r0), .val (.ref r1), .val (.ref r1)] [(.int (lcmpW vb va))])) t → Steps p.tables e below (s₁.setTop (entryFrame m #[(.ref r0), (.ref r1)] 3)) t := by
    intro t kt
    refine G2 _ ?_
    show Steps p.tables e below (T1.setTop (mkF m 4 #[.val (.ref r0), .val (.ref r1), .unset] [(.int (1 : Int32))])) _
    refine XS.ifNo X1.here hx rfl (hb hby d12_4) rfl ((if0 _ _).trans (feq (by decide)).1) ?_
    show Steps p.tables e below (T1.setTop (mkF m 7 #[.val (.ref r0), .val (.ref r1), .unset] [])) _
    refine XS.aloadN X1.here hx rfl (hb hby d12_7) rfl rfl ?_
    show Steps p.tables e below (T1.setTop (mkF m 8 #[.val (.ref r0), .val (.ref r1), .unset] [(.ref r1)])) _
    refine st3 _ ?_
    show Steps p.tables e below (T3.setTop (mkF m 11 #[.val (.ref r0), .val (.ref r1), .unset] [(.ref r1)])) _
    refine XS.astoreN X3.here hx rfl (hb hby d12_11) rfl rfl (l' := #[.val (.ref r0), .val (.ref r1), .val (.ref r1)]) rfl ?_
    show Steps p.tables e below (T3.setTop (mkF m 12 #[.val (.ref r0), .val (.ref r1), .val (.ref r1)] [])) _
    refine XS.aloadN X3.here hx rfl (hb hby d12_12) rfl rfl ?_
    show Steps p.tables e below (T3.setTop (mkF m 13 #[.val (.ref r0), .val (.ref r1), .val (.ref r1)] [(.ref r1)])) _
    refine st4 _ ?_
    show Steps p.tables e below (T4.setTop (mkF m 16 #[.val (.ref r0), .val (.ref r1), .val (.ref r1)] [(.long vb)])) _
    refine XS.aloadN X4.here hx rfl (hb hby d12_16) rfl rfl ?_
    show Steps p.tables e below (T4.setTop (mkF m 17 #[.val (.ref r0), .val (.ref r1), .val (.ref r1)] [(.ref r0), (.long vb)])) _
    refine st5 _ ?_
    show Steps p.tables e below (T5.setTop (mkF m 20 #[.val (.ref r0), .val (.ref r1), .val (.ref r1)] [(.long va), (.long vb)])) _
    refine XS.lcmp X5.here hx rfl (hb hby d12_20) rfl ?_
    exact kt
  by_cases hc21_7 : vb = va
  · skip
    obtain ⟨fs, hr, hrun, hended, hW, hsame⟩ := X5.leave (v := some (.int (1 : Int32))) (fun h => by rw [Bd.returns] at h; cases h)
    refine ⟨_, _, G6 _ ?_, hrun, hended, _, _, rfl, ?_, ⟨_, rfl⟩, hW, hsame.mono (by decide) (by decide)⟩
    · skip
      show Steps p.tables e below (T5.setTop (mkF m 21 #[.val (.ref r0), .val (.ref r1), .val (.ref r1)] [(.int (lcmpW vb va))])) _
      refine XS.ifNo X5.here hx rfl (hb hby d12_21) rfl ((if0 _ _).trans (teq ((lw_eq _ _).mpr hc21_7)).2) ?_
      show Steps p.tables e below (T5.setTop (mkF m 24 #[.val (.ref r0), .val (.ref r1), .val (.ref r1)] [])) _
      refine XS.iconst X5.here hx rfl (hb hby d12_24) ?_
      show Steps p.tables e below (T5.setTop (mkF m 25 #[.val (.ref r0), .val (.ref r1), .val (.ref r1)] [(.int (1 : Int32))])) _
      refine XS.goto X5.here hx rfl (pc0 := 25) (pc' := 29) rfl (hb hby d12_25) (by decide) (by decide) ?_
      show Steps p.tables e below (T5.setTop (mkF m 29 #[.val (.ref r0), .val (.ref r1), .val (.ref r1)] [(.int (1 : Int32))])) _
      exact retN X5 hx (t := .boolean) Bd.returns (by simp) (hb hby d12_29) hr
    · show Q12 Z r0 r1 va vb h0 n0 _ T5.heap _
      rw [e5]
      exact ⟨by rw [fequ, if_pos hc21_7], N0, rfl⟩
  · skip
    obtain ⟨fs, hr, hrun, hended, hW, hsame⟩ := X5.leave (v := some (.int (0 : Int32))) (fun h => by rw [Bd.returns] at h; cases h)
    refine ⟨_, _, G6 _ ?_, hrun, hended, _, _, rfl, ?_, ⟨_, rfl⟩, hW, hsame.mono (by decide) (by decide)⟩
    · skip
      show Steps p.tables e below (T5.setTop (mkF m 21 #[.val (.ref r0), .val (.ref r1), .val (.ref r1)] [(.int (lcmpW vb va))])) _
      refine XS.ifYes X5.here hx rfl (pc0 := 21) (pc' := 28) rfl (hb hby d12_21) rfl ((if0 _ _).trans (feq (fun q => hc21_7 ((lw_eq _ _).mp q))).2) (by decide) (by decide) ?_
      show Steps p.tables e below (T5.setTop (mkF m 28 #[.val (.ref r0), .val (.ref r1), .val (.ref r1)] [])) _
      refine XS.iconst X5.here hx rfl (hb hby d12_28) ?_
      show Steps p.tables e below (T5.setTop (mkF m 29 #[.val (.ref r0), .val (.ref r1), .val (.ref r1)] [(.int (0 : Int32))])) _
      exact retN X5 hx (t := .boolean) Bd.returns (by simp) (hb hby d12_29) hr
    · show Q12 Z r0 r1 va vb h0 n0 _ T5.heap _
      rw [e5]
      exact ⟨by rw [fequ, if_neg hc21_7], N0, rfl⟩
theorem own_bits (m : Int64) (k : Int32) (hm : 0 ≤ m.toInt ∧ m.toInt ≤ 281474976710655) (hk : 0 ≤ k.toInt ∧ k.toInt ≤ 65535) : (((m <<< ((16 : Int32) &&& 0x3f).toInt64) ||| (k.toInt64)).toInt - (m.toInt * 65536 + k.toInt)) % 18446744073709551616 = 0 := by
  have a1 := c_lshl m 16 16 (by decide)
  have e := c_i2l k
  have r := rng64 (m <<< ((16 : Int32) &&& 0x3f).toInt64)
  generalize hx : m <<< ((16 : Int32) &&& 0x3f).toInt64 = x at a1 r ⊢
  have p16 : ((2 ^ 16 : Nat) : Int) = 65536 := by decide
  rw [p16] at a1
  have a2 := c_orL x k.toInt64 16 (by decide) 65536 (by decide) (by omega) (by rw [e]; omega) (by rw [e]; omega)
  rw [e] at a2
  omega
theorem own_millis (m : Int64) (k : Int32) (hm : 0 ≤ m.toInt ∧ m.toInt ≤ 281474976710655) (hk : 0 ≤ k.toInt ∧ k.toInt ≤ 65535) : fmillis ((m <<< ((16 : Int32) &&& 0x3f).toInt64) ||| (k.toInt64)) = m := by
  have q := own_bits m k hm hk
  generalize ((m <<< ((16 : Int32) &&& 0x3f).toInt64) ||| (k.toInt64)) = b at q ⊢
  have a := c_lushr b 16 16 (by decide) (by decide)
  have p16 : ((2 ^ 16 : Nat) : Int) = 65536 := by decide
  rw [p16] at a
  rw [fmillis]
  apply Int64.toInt_inj.mp
  rw [a]
  omega
theorem own_counter (m : Int64) (k : Int32) (hm : 0 ≤ m.toInt ∧ m.toInt ≤ 281474976710655) (hk : 0 ≤ k.toInt ∧ k.toInt ≤ 65535) : fcounter ((m <<< ((16 : Int32) &&& 0x3f).toInt64) ||| (k.toInt64)) = k := by
  have q := own_bits m k hm hk
  generalize ((m <<< ((16 : Int32) &&& 0x3f).toInt64) ||| (k.toInt64)) = b at q ⊢
  have a := c_maskL b 65535 16 (by decide) (by decide)
  have p16 : ((2 ^ 16 : Nat) : Int) = 65536 := by decide
  rw [p16] at a
  rw [fcounter]
  have a2 := c_l2i (b &&& (65535 : Int64))
  have r := rng32 (b &&& (65535 : Int64)).toInt32
  rw [a] at a2
  apply Int32.toInt_inj.mp
  omega
theorem own_flip (b : Int64) (u : Int) (h : (b.toInt - u) % 18446744073709551616 = 0) (hu : 0 ≤ u ∧ u < 18446744073709551616) : (b + (-9223372036854775808 : Int64)).toInt = u - 9223372036854775808 := by
  have a := c_ladd b (-9223372036854775808)
  have r := rng64 (b + (-9223372036854775808))
  have e : (-9223372036854775808 : Int64).toInt = -9223372036854775808 := by decide
  rw [e] at a
  omega
theorem own_lt64 {x y : Int64} : x < y ↔ x.toInt < y.toInt := Int64.lt_iff_toInt_lt
theorem own_order (m1 m2 : Int64) (k1 k2 : Int32) (hm1 : 0 ≤ m1.toInt ∧ m1.toInt ≤ 281474976710655) (hk1 : 0 ≤ k1.toInt ∧ k1.toInt ≤ 65535) (hm2 : 0 ≤ m2.toInt ∧ m2.toInt ≤ 281474976710655) (hk2 : 0 ≤ k2.toInt ∧ k2.toInt ≤ 65535) :
    fsign (fcu ((m1 <<< ((16 : Int32) &&& 0x3f).toInt64) ||| (k1.toInt64)) ((m2 <<< ((16 : Int32) &&& 0x3f).toInt64) ||| (k2.toInt64))) = flex m1 k1 m2 k2 ∧ fequ ((m1 <<< ((16 : Int32) &&& 0x3f).toInt64) ||| (k1.toInt64)) ((m2 <<< ((16 : Int32) &&& 0x3f).toInt64) ||| (k2.toInt64)) = (if flex m1 k1 m2 k2 = (0 : Int32) then (1 : Int32) else (0 : Int32)) := by
  have q1 := own_bits m1 k1 hm1 hk1
  have q2 := own_bits m2 k2 hm2 hk2
  have r1 := rng64 ((m1 <<< ((16 : Int32) &&& 0x3f).toInt64) ||| (k1.toInt64))
  have r2 := rng64 ((m2 <<< ((16 : Int32) &&& 0x3f).toInt64) ||| (k2.toInt64))
  generalize ((m1 <<< ((16 : Int32) &&& 0x3f).toInt64) ||| (k1.toInt64)) = b1 at q1 r1 ⊢
  generalize ((m2 <<< ((16 : Int32) &&& 0x3f).toInt64) ||| (k2.toInt64)) = b2 at q2 r2 ⊢
  have f1 := own_flip b1 _ q1 (by omega)
  have f2 := own_flip b2 _ q2 (by omega)
  have s0 : fsign (0 : Int32) = 0 := by decide
  have s1 : fsign (1 : Int32) = 1 := by decide
  have s2 : fsign (-1 : Int32) = -1 := by decide
  rw [fcu, fcmp, fequ, flex]
  simp only [own_lt64, Int32.lt_iff_toInt_lt, ← Int64.toInt_inj, f1, f2]
  by_cases c1 : m1.toInt < m2.toInt
  · rw [if_pos (show m1.toInt * 65536 + k1.toInt - 9223372036854775808 < m2.toInt * 65536 + k2.toInt - 9223372036854775808 by omega), if_pos c1, if_neg (show ¬ b2.toInt = b1.toInt by omega)]
    exact ⟨s2, by decide⟩
  · rw [if_neg c1]
    by_cases c2 : m2.toInt < m1.toInt
    · rw [if_neg (show ¬ m1.toInt * 65536 + k1.toInt - 9223372036854775808 < m2.toInt * 65536 + k2.toInt - 9223372036854775808 by omega), if_neg (show ¬ m1.toInt * 65536 + k1.toInt - 9223372036854775808 = m2.toInt * 65536 + k2.toInt - 9223372036854775808 by omega), if_pos c2, if_neg (show ¬ b2.toInt = b1.toInt by omega)]
      exact ⟨s1, by decide⟩
    · rw [if_neg c2]
      by_cases c3 : k1.toInt < k2.toInt
      · rw [if_pos (show m1.toInt * 65536 + k1.toInt - 9223372036854775808 < m2.toInt * 65536 + k2.toInt - 9223372036854775808 by omega), if_pos c3, if_neg (show ¬ b2.toInt = b1.toInt by omega)]
        exact ⟨s2, by decide⟩
      · rw [if_neg c3]
        by_cases c4 : k2.toInt < k1.toInt
        · rw [if_neg (show ¬ m1.toInt * 65536 + k1.toInt - 9223372036854775808 < m2.toInt * 65536 + k2.toInt - 9223372036854775808 by omega), if_neg (show ¬ m1.toInt * 65536 + k1.toInt - 9223372036854775808 = m2.toInt * 65536 + k2.toInt - 9223372036854775808 by omega), if_pos c4, if_neg (show ¬ b2.toInt = b1.toInt by omega)]
          exact ⟨s1, by decide⟩
        · rw [if_neg (show ¬ m1.toInt * 65536 + k1.toInt - 9223372036854775808 < m2.toInt * 65536 + k2.toInt - 9223372036854775808 by omega), if_pos (show m1.toInt * 65536 + k1.toInt - 9223372036854775808 = m2.toInt * 65536 + k2.toInt - 9223372036854775808 by omega), if_neg c4, if_pos (show b2.toInt = b1.toInt by omega)]
          exact ⟨s0, by decide⟩
theorem own_rngL {m : Int64} (h : 0 ≤ m.toInt ∧ m.toInt ≤ 281474976710655) : ¬ (m < (0 : Int64)) ∧ ¬ ((281474976710655 : Int64) < m) := by
  have e0 : (0 : Int64).toInt = 0 := by decide
  have e1 : (281474976710655 : Int64).toInt = 281474976710655 := by decide
  rw [own_lt64, own_lt64, e0, e1]; omega
theorem own_rngI {k : Int32} (h : 0 ≤ k.toInt ∧ k.toInt ≤ 65535) : ¬ ((k.toInt64) < (0 : Int64)) ∧ ¬ ((65535 : Int64) < (k.toInt64)) := by
  have e0 : (0 : Int64).toInt = 0 := by decide
  have e1 : (65535 : Int64).toInt = 65535 := by decide
  have e := c_i2l k
  rw [own_lt64, own_lt64, e0, e1, e]; omega
theorem own_mL (x : Int64) : 0 ≤ (x &&& (281474976710655 : Int64)).toInt ∧ (x &&& (281474976710655 : Int64)).toInt ≤ 281474976710655 := by
  have a := c_maskL x 281474976710655 48 (by decide) (by decide)
  have p48 : ((2 ^ 48 : Nat) : Int) = 281474976710656 := by decide
  rw [p48] at a
  omega
theorem own_mI (x : Int32) : 0 ≤ (x &&& (65535 : Int32)).toInt ∧ (x &&& (65535 : Int32)).toInt ≤ 65535 := by
  have a := c_mask x 65535 16 (by decide) (by decide)
  have p16 : ((2 ^ 16 : Nat) : Int) = 65536 := by decide
  rw [p16] at a
  omega
theorem pd_3 : parseMethodDescriptor "(JI)Lcom/example/fides/fides/HybridTimestamp;" = some ⟨[.long, .int], some (.object "com/example/fides/fides/HybridTimestamp")⟩ := by decide +kernel
theorem pd_4 : parseMethodDescriptor "()J" = some ⟨[], some .long⟩ := by decide +kernel
theorem pd_5 : parseMethodDescriptor "()I" = some ⟨[], some .int⟩ := by decide +kernel
theorem pd_6 : parseMethodDescriptor "(JIJI)I" = some ⟨[.long, .int, .long, .int], some .int⟩ := by decide +kernel
theorem pd_7 : parseMethodDescriptor "(Lcom/example/fides/fides/HybridTimestamp;)I" = some ⟨[(.object "com/example/fides/fides/HybridTimestamp")], some .int⟩ := by decide +kernel
theorem pd_8 : parseMethodDescriptor "(I)I" = some ⟨[.int], some .int⟩ := by decide +kernel
theorem pd_9 : parseMethodDescriptor "(Ljava/lang/Object;)Z" = some ⟨[(.object "java/lang/Object")], some .boolean⟩ := by decide +kernel
def Q0 (Z : State) (q0 : Int64) (p1 : Int32) (q2 : Int64) (p3 : Int32) (p4 : Int32) (h0 : Heap) (n0 : Nat) (v : Option Value) (h : Heap) (L : List Loc) : Prop := v = some (.int (1 : Int32)) ∧ Fr n0 L
theorem ef_rm0 (m : MethodId) (x0 : Int64) (x1 : Int32) (x2 : Int64) (x3 : Int32) (x4 : Int32) : entryFrame m #[(.long x0), (.int x1), (.long x2), (.int x3), (.int x4)] maxLocals = mkF m 0 #[.val (.long x0), .second, .val (.int x1), .val (.long x2), .second, .val (.int x3), .val (.int x4), .unset, .unset, .unset, .unset, .unset, .unset, .unset, .unset, .unset, .unset, .unset, .unset] [] := by first | (simp [entryFrame, mkF, argsToLocals, Value.category, maxLocals]; done) | rfl
set_option maxRecDepth 65536 in
set_option maxHeartbeats 40000000 in
theorem rm0 (l : Launch) (Z : State) (a0 : Array Value) (hw : ∀ d ∈ tables_1, d.before a0 Z = true) (ws : List Jvm.Cond) (q0 : Int64) (p1 : Int32) (q2 : Int64) (p3 : Int32) (p4 : Int32) (h0 : Heap) (n0 : Nat) (Z0 : n0 ≤ h0.size) :
    MetFree l x (head1 (Jvm.Cond.code x code maxLocals ret :: ws) room_1) (fun a U => a = #[(.long q0), (.int p1), (.long q2), (.int p3), (.int p4)] ∧ Z.Warmed39 U.vm ∧ U.heap = h0) (fun _ _ _ _ _ => True) (fun _ U o U' => ∃ v L, o = .returned v ∧ Q0 Z q0 p1 q2 p3 p4 h0 n0 v U'.heap L ∧ ReturnedEndW U o U' L room_1.cells room_1.slots) := by
  refine MetFree.of_bodySF (plainFor_of_name pnc_com_example_fides_fides_HybridTimestampOfPinLaw) hisR ?_
  intro p e s m args below meth c s₁ Bd hml0 hP hK
  obtain ⟨rfl, hZ, hh⟩ := hP
  have hx := Bd.exec
  have hby := Bd.bytes
  have hml : c.maxLocals = 19 := hml0
  have hown : s.vm.findClass "com/example/fides/fides/HybridTimestampOfPinLaw" = some m.cls := findClass_of_methodNamed Bd.named
  have hnm := (name_of_methodNamed Bd.named Bd.method).1
  have X0 : Stand p l e room_1 s m #[(.long q0), (.int p1), (.long q2), (.int p3), (.int p4)] below meth c s₁ [] 0 0 := Stand.of_body Bd
  have e0 : s₁.heap = h0 := by rw [← hh, Bd.state]; rfl
  have N0 := Fr.nil n0
  have kp0 : Keep h0 h0 [] := Keep.refl _ _
  have G0 : ∀ t, Steps p.tables e below (s₁.setTop (mkF m 0 #[.val (.long q0), .second, .val (.int p1), .val (.long q2), .second, .val (.int p3), .val (.int p4), .unset, .unset, .unset, .unset, .unset, .unset, .unset, .unset, .unset, .unset, .unset, .unset] [])) t → Steps p.tables e below (s₁.setTop (entryFrame m #[(.long q0), (.int p1), (.long q2), (.int p3), (.int p4)] maxLocals)) t := fun t k => castTop (ef_rm0 m q0 p1 q2 p3 p4) k
  have X0 : Stand p l e room_1 (s.setVm s.vm) m #[(.long q0), (.int p1), (.long q2), (.int p3), (.int p4)] below meth c s₁ [] 0 0 := X0
  have hZ : Z.Warmed39 (s.setVm s.vm).vm := hZ
  have hown : (s.setVm s.vm).vm.findClass "com/example/fides/fides/HybridTimestampOfPinLaw" = some m.cls := hown
  have hS : s.Since s.vm 0 := (State.WarmedH.refl s).since 0
  have hk : 0 ≤ h0.size := Nat.zero_le _
  have G1 : ∀ t, Steps p.tables e below (s₁.setTop (mkF m 8 #[.val (.long q0), .second, .val (.int p1), .val (.long q2), .second, .val (.int p3), .val (.int p4), .val (.long (q0 &&& (281474976710655 : Int64))), .second, .unset, .unset, .unset, .unset, .unset, .unset, .unset, .unset, .unset, .unset] [(.int p1)])) t → Steps p.tables e below (s₁.setTop (entryFrame m #[(.long q0), (.int p1), (.long q2), (.int p3), (.int p4)] maxLocals)) t := by
    intro t kt
    refine G0 _ ?_
    show Steps p.tables e below (s₁.setTop (mkF m 0 #[.val (.long q0), .second, .val (.int p1), .val (.long q2), .second, .val (.int p3), .val (.int p4), .unset, .unset, .unset, .unset, .unset, .unset, .unset, .unset, .unset, .unset, .unset, .unset] [])) _
    refine XS.lloadN X0.here hx rfl (hb hby at_0) rfl ?_
    show Steps p.tables e below (s₁.setTop (mkF m 1 #[.val (.long q0), .second, .val (.int p1), .val (.long q2), .second, .val (.int p3), .val (.int p4), .unset, .unset, .unset, .unset, .unset, .unset, .unset, .unset, .unset, .unset, .unset, .unset] [(.long q0)])) _
    refine X0.ldc2Long hx hown (mvT hZ (hw _ (List.mem_of_getElem? (i := 0) rfl))) (g := (mkF m 1 #[.val (.long q0), .second, .val (.int p1), .val (.long q2), .second, .val (.int p3), .val (.int p4), .unset, .unset, .unset, .unset, .unset, .unset, .unset, .unset, .unset, .unset, .unset, .unset] [(.long q0)])) rfl (hb hby at_1) _ ?_
    show Steps p.tables e below (s₁.setTop (mkF m 4 #[.val (.long q0), .second, .val (.int p1), .val (.long q2), .second, .val (.int p3), .val (.int p4), .unset, .unset, .unset, .unset, .unset, .unset, .unset, .unset, .unset, .unset, .unset, .unset] [(.long (281474976710655 : Int64)), (.long q0)])) _
    refine XS.land X0.here hx rfl (hb hby at_4) rfl ?_
    show Steps p.tables e below (s₁.setTop (mkF m 5 #[.val (.long q0), .second, .val (.int p1), .val (.long q2), .second, .val (.int p3), .val (.int p4), .unset, .unset, .unset, .unset, .unset, .unset, .unset, .unset, .unset, .unset, .unset, .unset] [(.long (q0 &&& (281474976710655 : Int64)))])) _
    refine XS.lstore X0.here hx rfl (hb hby at_5) rfl (l' := #[.val (.long q0), .second, .val (.int p1), .val (.long q2), .second, .val (.int p3), .val (.int p4), .val (.long (q0 &&& (281474976710655 : Int64))), .second, .unset, .unset, .unset, .unset, .unset, .unset, .unset, .unset, .unset, .unset]) rfl ?_
    show Steps p.tables e below (s₁.setTop (mkF m 7 #[.val (.long q0), .second, .val (.int p1), .val (.long q2), .second, .val (.int p3), .val (.int p4), .val (.long (q0 &&& (281474976710655 : Int64))), .second, .unset, .unset, .unset, .unset, .unset, .unset, .unset, .unset, .unset, .unset] [])) _
    refine XS.iloadN X0.here hx rfl (hb hby at_7) rfl ?_
    exact kt
  have G2 : ∀ t, Steps p.tables e below (s₁.setTop (mkF m 22 #[.val (.long q0), .second, .val (.int p1), .val (.long q2), .second, .val (.int p3), .val (.int p4), .val (.long (q0 &&& (281474976710655 : Int64))), .second, .val (.int (p1 &&& (65535 : Int32))), .val (.long (q2 &&& (281474976710655 : Int64))), .second, .unset, .unset, .unset, .unset, .unset, .unset, .unset] [(.int p3)])) t → Steps p.tables e below (s₁.setTop (entryFrame m #[(.long q0), (.int p1), (.long q2), (.int p3), (.int p4)] maxLocals)) t := by
    intro t kt
    refine G1 _ ?_
    show Steps p.tables e below (s₁.setTop (mkF m 8 #[.val (.long q0), .second, .val (.int p1), .val (.long q2), .second, .val (.int p3), .val (.int p4), .val (.long (q0 &&& (281474976710655 : Int64))), .second, .unset, .unset, .unset, .unset, .unset, .unset, .unset, .unset, .unset, .unset] [(.int p1)])) _
    refine X0.ldcInt hx hown (mvT hZ (hw _ (List.mem_of_getElem? (i := 1) rfl))) (g := (mkF m 8 #[.val (.long q0), .second, .val (.int p1), .val (.long q2), .second, .val (.int p3), .val (.int p4), .val (.long (q0 &&& (281474976710655 : Int64))), .second, .unset, .unset, .unset, .unset, .unset, .unset, .unset, .unset, .unset, .unset] [(.int p1)])) rfl (hb hby at_8) _ ?_
    show Steps p.tables e below (s₁.setTop (mkF m 10 #[.val (.long q0), .second, .val (.int p1), .val (.long q2), .second, .val (.int p3), .val (.int p4), .val (.long (q0 &&& (281474976710655 : Int64))), .second, .unset, .unset, .unset, .unset, .unset, .unset, .unset, .unset, .unset, .unset] [(.int (65535 : Int32)), (.int p1)])) _
    refine XS.iand X0.here hx rfl (hb hby at_10) rfl ?_
    show Steps p.tables e below (s₁.setTop (mkF m 11 #[.val (.long q0), .second, .val (.int p1), .val (.long q2), .second, .val (.int p3), .val (.int p4), .val (.long (q0 &&& (281474976710655 : Int64))), .second, .unset, .unset, .unset, .unset, .unset, .unset, .unset, .unset, .unset, .unset] [(.int (p1 &&& (65535 : Int32)))])) _
    refine XS.istore X0.here hx rfl (hb hby at_11) rfl (l' := #[.val (.long q0), .second, .val (.int p1), .val (.long q2), .second, .val (.int p3), .val (.int p4), .val (.long (q0 &&& (281474976710655 : Int64))), .second, .val (.int (p1 &&& (65535 : Int32))), .unset, .unset, .unset, .unset, .unset, .unset, .unset, .unset, .unset]) rfl ?_
    show Steps p.tables e below (s₁.setTop (mkF m 13 #[.val (.long q0), .second, .val (.int p1), .val (.long q2), .second, .val (.int p3), .val (.int p4), .val (.long (q0 &&& (281474976710655 : Int64))), .second, .val (.int (p1 &&& (65535 : Int32))), .unset, .unset, .unset, .unset, .unset, .unset, .unset, .unset, .unset] [])) _
    refine XS.lloadN X0.here hx rfl (hb hby at_13) rfl ?_
    show Steps p.tables e below (s₁.setTop (mkF m 14 #[.val (.long q0), .second, .val (.int p1), .val (.long q2), .second, .val (.int p3), .val (.int p4), .val (.long (q0 &&& (281474976710655 : Int64))), .second, .val (.int (p1 &&& (65535 : Int32))), .unset, .unset, .unset, .unset, .unset, .unset, .unset, .unset, .unset] [(.long q2)])) _
    refine X0.ldc2Long hx hown (mvT hZ (hw _ (List.mem_of_getElem? (i := 0) rfl))) (g := (mkF m 14 #[.val (.long q0), .second, .val (.int p1), .val (.long q2), .second, .val (.int p3), .val (.int p4), .val (.long (q0 &&& (281474976710655 : Int64))), .second, .val (.int (p1 &&& (65535 : Int32))), .unset, .unset, .unset, .unset, .unset, .unset, .unset, .unset, .unset] [(.long q2)])) rfl (hb hby at_14) _ ?_
    show Steps p.tables e below (s₁.setTop (mkF m 17 #[.val (.long q0), .second, .val (.int p1), .val (.long q2), .second, .val (.int p3), .val (.int p4), .val (.long (q0 &&& (281474976710655 : Int64))), .second, .val (.int (p1 &&& (65535 : Int32))), .unset, .unset, .unset, .unset, .unset, .unset, .unset, .unset, .unset] [(.long (281474976710655 : Int64)), (.long q2)])) _
    refine XS.land X0.here hx rfl (hb hby at_17) rfl ?_
    show Steps p.tables e below (s₁.setTop (mkF m 18 #[.val (.long q0), .second, .val (.int p1), .val (.long q2), .second, .val (.int p3), .val (.int p4), .val (.long (q0 &&& (281474976710655 : Int64))), .second, .val (.int (p1 &&& (65535 : Int32))), .unset, .unset, .unset, .unset, .unset, .unset, .unset, .unset, .unset] [(.long (q2 &&& (281474976710655 : Int64)))])) _
    refine XS.lstore X0.here hx rfl (hb hby at_18) rfl (l' := #[.val (.long q0), .second, .val (.int p1), .val (.long q2), .second, .val (.int p3), .val (.int p4), .val (.long (q0 &&& (281474976710655 : Int64))), .second, .val (.int (p1 &&& (65535 : Int32))), .val (.long (q2 &&& (281474976710655 : Int64))), .second, .unset, .unset, .unset, .unset, .unset, .unset, .unset]) rfl ?_
    show Steps p.tables e below (s₁.setTop (mkF m 20 #[.val (.long q0), .second, .val (.int p1), .val (.long q2), .second, .val (.int p3), .val (.int p4), .val (.long (q0 &&& (281474976710655 : Int64))), .second, .val (.int (p1 &&& (65535 : Int32))), .val (.long (q2 &&& (281474976710655 : Int64))), .second, .unset, .unset, .unset, .unset, .unset, .unset, .unset] [])) _
    refine XS.iload X0.here hx rfl (hb hby at_20) rfl ?_
    exact kt
  have G3 : ∀ t, Steps p.tables e below (s₁.setTop (mkF m 27 #[.val (.long q0), .second, .val (.int p1), .val (.long q2), .second, .val (.int p3), .val (.int p4), .val (.long (q0 &&& (281474976710655 : Int64))), .second, .val (.int (p1 &&& (65535 : Int32))), .val (.long (q2 &&& (281474976710655 : Int64))), .second, .val (.int (p3 &&& (65535 : Int32))), .unset, .unset, .unset, .unset, .unset, .unset] [])) t → Steps p.tables e below (s₁.setTop (entryFrame m #[(.long q0), (.int p1), (.long q2), (.int p3), (.int p4)] maxLocals)) t := by
    intro t kt
    refine G2 _ ?_
    show Steps p.tables e below (s₁.setTop (mkF m 22 #[.val (.long q0), .second, .val (.int p1), .val (.long q2), .second, .val (.int p3), .val (.int p4), .val (.long (q0 &&& (281474976710655 : Int64))), .second, .val (.int (p1 &&& (65535 : Int32))), .val (.long (q2 &&& (281474976710655 : Int64))), .second, .unset, .unset, .unset, .unset, .unset, .unset, .unset] [(.int p3)])) _
    refine X0.ldcInt hx hown (mvT hZ (hw _ (List.mem_of_getElem? (i := 1) rfl))) (g := (mkF m 22 #[.val (.long q0), .second, .val (.int p1), .val (.long q2), .second, .val (.int p3), .val (.int p4), .val (.long (q0 &&& (281474976710655 : Int64))), .second, .val (.int (p1 &&& (65535 : Int32))), .val (.long (q2 &&& (281474976710655 : Int64))), .second, .unset, .unset, .unset, .unset, .unset, .unset, .unset] [(.int p3)])) rfl (hb hby at_22) _ ?_
    show Steps p.tables e below (s₁.setTop (mkF m 24 #[.val (.long q0), .second, .val (.int p1), .val (.long q2), .second, .val (.int p3), .val (.int p4), .val (.long (q0 &&& (281474976710655 : Int64))), .second, .val (.int (p1 &&& (65535 : Int32))), .val (.long (q2 &&& (281474976710655 : Int64))), .second, .unset, .unset, .unset, .unset, .unset, .unset, .unset] [(.int (65535 : Int32)), (.int p3)])) _
    refine XS.iand X0.here hx rfl (hb hby at_24) rfl ?_
    show Steps p.tables e below (s₁.setTop (mkF m 25 #[.val (.long q0), .second, .val (.int p1), .val (.long q2), .second, .val (.int p3), .val (.int p4), .val (.long (q0 &&& (281474976710655 : Int64))), .second, .val (.int (p1 &&& (65535 : Int32))), .val (.long (q2 &&& (281474976710655 : Int64))), .second, .unset, .unset, .unset, .unset, .unset, .unset, .unset] [(.int (p3 &&& (65535 : Int32)))])) _
    refine XS.istore X0.here hx rfl (hb hby at_25) rfl (l' := #[.val (.long q0), .second, .val (.int p1), .val (.long q2), .second, .val (.int p3), .val (.int p4), .val (.long (q0 &&& (281474976710655 : Int64))), .second, .val (.int (p1 &&& (65535 : Int32))), .val (.long (q2 &&& (281474976710655 : Int64))), .second, .val (.int (p3 &&& (65535 : Int32))), .unset, .unset, .unset, .unset, .unset, .unset]) rfl ?_
    exact kt
  obtain ⟨m1, hm1⟩ : ∃ z : Int64, z = (q0 &&& (281474976710655 : Int64)) := ⟨_, rfl⟩
  obtain ⟨c1, hc1⟩ : ∃ z : Int32, z = (p1 &&& (65535 : Int32)) := ⟨_, rfl⟩
  obtain ⟨m0, hm0⟩ : ∃ z : Int64, z = (q2 &&& (281474976710655 : Int64)) := ⟨_, rfl⟩
  obtain ⟨c0, hc0⟩ : ∃ z : Int32, z = (p3 &&& (65535 : Int32)) := ⟨_, rfl⟩
  have G4 : ∀ t, Steps p.tables e below (s₁.setTop (mkF m 27 #[.val (.long q0), .second, .val (.int p1), .val (.long q2), .second, .val (.int p3), .val (.int p4), .val (.long m1), .second, .val (.int c1), .val (.long m0), .second, .val (.int c0), .unset, .unset, .unset, .unset, .unset, .unset] [])) t → Steps p.tables e below (s₁.setTop (entryFrame m #[(.long q0), (.int p1), (.long q2), (.int p3), (.int p4)] maxLocals)) t := by
    intro t kt
    rw [hm1, hc1, hm0, hc0] at kt
    exact G3 t kt
  have rm1' : 0 ≤ m1.toInt ∧ m1.toInt ≤ 281474976710655 := by rw [hm1]; exact own_mL _
  have rc1' : 0 ≤ c1.toInt ∧ c1.toInt ≤ 65535 := by rw [hc1]; exact own_mI _
  have rm0' : 0 ≤ m0.toInt ∧ m0.toInt ≤ 281474976710655 := by rw [hm0]; exact own_mL _
  have rc0' : 0 ≤ c0.toInt ∧ c0.toInt ≤ 65535 := by rw [hc0]; exact own_mI _
  have G5 : ∀ t, Steps p.tables e below (s₁.setTop (mkF m 31 #[.val (.long q0), .second, .val (.int p1), .val (.long q2), .second, .val (.int p3), .val (.int p4), .val (.long m1), .second, .val (.int c1), .val (.long m0), .second, .val (.int c0), .unset, .unset, .unset, .unset, .unset, .unset] [(.int (p4 &&& (1 : Int32)))])) t → Steps p.tables e below (s₁.setTop (entryFrame m #[(.long q0), (.int p1), (.long q2), (.int p3), (.int p4)] maxLocals)) t := by
    intro t kt
    refine G4 _ ?_
    show Steps p.tables e below (s₁.setTop (mkF m 27 #[.val (.long q0), .second, .val (.int p1), .val (.long q2), .second, .val (.int p3), .val (.int p4), .val (.long m1), .second, .val (.int c1), .val (.long m0), .second, .val (.int c0), .unset, .unset, .unset, .unset, .unset, .unset] [])) _
    refine XS.iload X0.here hx rfl (hb hby at_27) rfl ?_
    show Steps p.tables e below (s₁.setTop (mkF m 29 #[.val (.long q0), .second, .val (.int p1), .val (.long q2), .second, .val (.int p3), .val (.int p4), .val (.long m1), .second, .val (.int c1), .val (.long m0), .second, .val (.int c0), .unset, .unset, .unset, .unset, .unset, .unset] [(.int p4)])) _
    refine XS.iconst X0.here hx rfl (hb hby at_29) ?_
    show Steps p.tables e below (s₁.setTop (mkF m 30 #[.val (.long q0), .second, .val (.int p1), .val (.long q2), .second, .val (.int p3), .val (.int p4), .val (.long m1), .second, .val (.int c1), .val (.long m0), .second, .val (.int c0), .unset, .unset, .unset, .unset, .unset, .unset] [(.int (1 : Int32)), (.int p4)])) _
    refine XS.iand X0.here hx rfl (hb hby at_30) rfl ?_
    exact kt
  obtain ⟨j6, hj6⟩ : ∃ z : Int64, z = (if (p4 &&& (1 : Int32)) = (0 : Int32) then m0 else m1) := ⟨_, rfl⟩
  have G7 : ∀ t, Steps p.tables e below (s₁.setTop (mkF m 38 #[.val (.long q0), .second, .val (.int p1), .val (.long q2), .second, .val (.int p3), .val (.int p4), .val (.long m1), .second, .val (.int c1), .val (.long j6), .second, .val (.int c0), .unset, .unset, .unset, .unset, .unset, .unset] [])) t → Steps p.tables e below (s₁.setTop (entryFrame m #[(.long q0), (.int p1), (.long q2), (.int p3), (.int p4)] maxLocals)) t := by
    intro t kt
    by_cases hc31_8 : (p4 &&& (1 : Int32)) = (0 : Int32)
    · skip
      rw [show j6 = m0 from by rw [hj6, if_pos hc31_8]] at kt
      refine G5 _ ?_
      show Steps p.tables e below (s₁.setTop (mkF m 31 #[.val (.long q0), .second, .val (.int p1), .val (.long q2), .second, .val (.int p3), .val (.int p4), .val (.long m1), .second, .val (.int c1), .val (.long m0), .second, .val (.int c0), .unset, .unset, .unset, .unset, .unset, .unset] [(.int (p4 &&& (1 : Int32)))])) _
      refine XS.ifYes X0.here hx rfl (pc0 := 31) (pc' := 38) rfl (hb hby at_31) rfl ((if0 _ _).trans (teq hc31_8).1) (by decide) (by decide) ?_
      exact kt
    · skip
      rw [show j6 = m1 from by rw [hj6, if_neg hc31_8]] at kt
      refine G5 _ ?_
      show Steps p.tables e below (s₁.setTop (mkF m 31 #[.val (.long q0), .second, .val (.int p1), .val (.long q2), .second, .val (.int p3), .val (.int p4), .val (.long m1), .second, .val (.int c1), .val (.long m0), .second, .val (.int c0), .unset, .unset, .unset, .unset, .unset, .unset] [(.int (p4 &&& (1 : Int32)))])) _
      refine XS.ifNo X0.here hx rfl (hb hby at_31) rfl ((if0 _ _).trans (feq hc31_8).1) ?_
      show Steps p.tables e below (s₁.setTop (mkF m 34 #[.val (.long q0), .second, .val (.int p1), .val (.long q2), .second, .val (.int p3), .val (.int p4), .val (.long m1), .second, .val (.int c1), .val (.long m0), .second, .val (.int c0), .unset, .unset, .unset, .unset, .unset, .unset] [])) _
      refine XS.lload X0.here hx rfl (hb hby at_34) rfl ?_
      show Steps p.tables e below (s₁.setTop (mkF m 36 #[.val (.long q0), .second, .val (.int p1), .val (.long q2), .second, .val (.int p3), .val (.int p4), .val (.long m1), .second, .val (.int c1), .val (.long m0), .second, .val (.int c0), .unset, .unset, .unset, .unset, .unset, .unset] [(.long m1)])) _
      refine XS.lstore X0.here hx rfl (hb hby at_36) rfl (l' := #[.val (.long q0), .second, .val (.int p1), .val (.long q2), .second, .val (.int p3), .val (.int p4), .val (.long m1), .second, .val (.int c1), .val (.long m1), .second, .val (.int c0), .unset, .unset, .unset, .unset, .unset, .unset]) rfl ?_
      exact kt
  have G9 : ∀ t, Steps p.tables e below (s₁.setTop (mkF m 42 #[.val (.long q0), .second, .val (.int p1), .val (.long q2), .second, .val (.int p3), .val (.int p4), .val (.long m1), .second, .val (.int c1), .val (.long j6), .second, .val (.int c0), .unset, .unset, .unset, .unset, .unset, .unset] [(.int (p4 &&& (2 : Int32)))])) t → Steps p.tables e below (s₁.setTop (entryFrame m #[(.long q0), (.int p1), (.long q2), (.int p3), (.int p4)] maxLocals)) t := by
    intro t kt
    refine G7 _ ?_
    show Steps p.tables e below (s₁.setTop (mkF m 38 #[.val (.long q0), .second, .val (.int p1), .val (.long q2), .second, .val (.int p3), .val (.int p4), .val (.long m1), .second, .val (.int c1), .val (.long j6), .second, .val (.int c0), .unset, .unset, .unset, .unset, .unset, .unset] [])) _
    refine XS.iload X0.here hx rfl (hb hby at_38) rfl ?_
    show Steps p.tables e below (s₁.setTop (mkF m 40 #[.val (.long q0), .second, .val (.int p1), .val (.long q2), .second, .val (.int p3), .val (.int p4), .val (.long m1), .second, .val (.int c1), .val (.long j6), .second, .val (.int c0), .unset, .unset, .unset, .unset, .unset, .unset] [(.int p4)])) _
    refine XS.iconst X0.here hx rfl (hb hby at_40) ?_
    show Steps p.tables e below (s₁.setTop (mkF m 41 #[.val (.long q0), .second, .val (.int p1), .val (.long q2), .second, .val (.int p3), .val (.int p4), .val (.long m1), .second, .val (.int c1), .val (.long j6), .second, .val (.int c0), .unset, .unset, .unset, .unset, .unset, .unset] [(.int (2 : Int32)), (.int p4)])) _
    refine XS.iand X0.here hx rfl (hb hby at_41) rfl ?_
    exact kt
  obtain ⟨j10, hj10⟩ : ∃ z : Int32, z = (if (p4 &&& (2 : Int32)) = (0 : Int32) then c0 else c1) := ⟨_, rfl⟩
  have G11 : ∀ t, Steps p.tables e below (s₁.setTop (mkF m 49 #[.val (.long q0), .second, .val (.int p1), .val (.long q2), .second, .val (.int p3), .val (.int p4), .val (.long m1), .second, .val (.int c1), .val (.long j6), .second, .val (.int j10), .unset, .unset, .unset, .unset, .unset, .unset] [])) t → Steps p.tables e below (s₁.setTop (entryFrame m #[(.long q0), (.int p1), (.long q2), (.int p3), (.int p4)] maxLocals)) t := by
    intro t kt
    by_cases hc42_12 : (p4 &&& (2 : Int32)) = (0 : Int32)
    · skip
      rw [show j10 = c0 from by rw [hj10, if_pos hc42_12]] at kt
      refine G9 _ ?_
      show Steps p.tables e below (s₁.setTop (mkF m 42 #[.val (.long q0), .second, .val (.int p1), .val (.long q2), .second, .val (.int p3), .val (.int p4), .val (.long m1), .second, .val (.int c1), .val (.long j6), .second, .val (.int c0), .unset, .unset, .unset, .unset, .unset, .unset] [(.int (p4 &&& (2 : Int32)))])) _
      refine XS.ifYes X0.here hx rfl (pc0 := 42) (pc' := 49) rfl (hb hby at_42) rfl ((if0 _ _).trans (teq hc42_12).1) (by decide) (by decide) ?_
      exact kt
    · skip
      rw [show j10 = c1 from by rw [hj10, if_neg hc42_12]] at kt
      refine G9 _ ?_
      show Steps p.tables e below (s₁.setTop (mkF m 42 #[.val (.long q0), .second, .val (.int p1), .val (.long q2), .second, .val (.int p3), .val (.int p4), .val (.long m1), .second, .val (.int c1), .val (.long j6), .second, .val (.int c0), .unset, .unset, .unset, .unset, .unset, .unset] [(.int (p4 &&& (2 : Int32)))])) _
      refine XS.ifNo X0.here hx rfl (hb hby at_42) rfl ((if0 _ _).trans (feq hc42_12).1) ?_
      show Steps p.tables e below (s₁.setTop (mkF m 45 #[.val (.long q0), .second, .val (.int p1), .val (.long q2), .second, .val (.int p3), .val (.int p4), .val (.long m1), .second, .val (.int c1), .val (.long j6), .second, .val (.int c0), .unset, .unset, .unset, .unset, .unset, .unset] [])) _
      refine XS.iload X0.here hx rfl (hb hby at_45) rfl ?_
      show Steps p.tables e below (s₁.setTop (mkF m 47 #[.val (.long q0), .second, .val (.int p1), .val (.long q2), .second, .val (.int p3), .val (.int p4), .val (.long m1), .second, .val (.int c1), .val (.long j6), .second, .val (.int c0), .unset, .unset, .unset, .unset, .unset, .unset] [(.int c1)])) _
      refine XS.istore X0.here hx rfl (hb hby at_47) rfl (l' := #[.val (.long q0), .second, .val (.int p1), .val (.long q2), .second, .val (.int p3), .val (.int p4), .val (.long m1), .second, .val (.int c1), .val (.long j6), .second, .val (.int c1), .unset, .unset, .unset, .unset, .unset, .unset]) rfl ?_
      exact kt
  have rm2' : 0 ≤ j6.toInt ∧ j6.toInt ≤ 281474976710655 := by rw [hj6]; split <;> assumption
  have rc2' : 0 ≤ j10.toInt ∧ j10.toInt ≤ 65535 := by rw [hj10]; split <;> assumption
  obtain ⟨ml1, mh1⟩ := own_rngL rm1'
  obtain ⟨cl1, ch1⟩ := own_rngI rc1'
  obtain ⟨ml2, mh2⟩ := own_rngL rm2'
  obtain ⟨cl2, ch2⟩ := own_rngI rc2'
  have hord := own_order m1 j6 c1 j10 rm1' rc1' rm2' rc2'
  have G13 : ∀ t, Steps p.tables e below (s₁.setTop (mkF m 53 #[.val (.long q0), .second, .val (.int p1), .val (.long q2), .second, .val (.int p3), .val (.int p4), .val (.long m1), .second, .val (.int c1), .val (.long j6), .second, .val (.int j10), .unset, .unset, .unset, .unset, .unset, .unset] [(.int c1), (.long m1)])) t → Steps p.tables e below (s₁.setTop (entryFrame m #[(.long q0), (.int p1), (.long q2), (.int p3), (.int p4)] maxLocals)) t := by
    intro t kt
    refine G11 _ ?_
    show Steps p.tables e below (s₁.setTop (mkF m 49 #[.val (.long q0), .second, .val (.int p1), .val (.long q2), .second, .val (.int p3), .val (.int p4), .val (.long m1), .second, .val (.int c1), .val (.long j6), .second, .val (.int j10), .unset, .unset, .unset, .unset, .unset, .unset] [])) _
    refine XS.lload X0.here hx rfl (hb hby at_49) rfl ?_
    show Steps p.tables e below (s₁.setTop (mkF m 51 #[.val (.long q0), .second, .val (.int p1), .val (.long q2), .second, .val (.int p3), .val (.int p4), .val (.long m1), .second, .val (.int c1), .val (.long j6), .second, .val (.int j10), .unset, .unset, .unset, .unset, .unset, .unset] [(.long m1)])) _
    refine XS.iload X0.here hx rfl (hb hby at_51) rfl ?_
    exact kt
  obtain ⟨_, vm14, ⟨T14, L14, k14, n14⟩, -, X14, hS14, gr14, ⟨Lc14, hQ14, l14, y14, z14⟩, st14⟩ := callSS X0 hx (y := (⟨"com/example/fides/fides/HybridTimestamp", "of", "(JI)Lcom/example/fides/fides/HybridTimestamp;"⟩ : MethodName)) hown (mvT hZ (hw _ (List.mem_of_getElem? (i := 2) rfl))) (mvT hZ (hw _ (List.mem_of_getElem? (i := 3) rfl))) (mvT hZ (hw _ (List.mem_of_getElem? (i := 4) rfl))) (mvT hZ (hw _ (List.mem_of_getElem? (i := 5) rfl))) (by decide) (backOfS (W := 0) (rm1 l Z a0 hw [] m1 c1  h0 n0 Z0 ml1 mh1 cl1 ch1) hZ (hw _ (List.mem_of_getElem? (i := 5) rfl)) (hw _ (List.mem_of_getElem? (i := 4) rfl)) (by decide) (by decide)) (g := (mkF m 53 #[.val (.long q0), .second, .val (.int p1), .val (.long q2), .second, .val (.int p3), .val (.int p4), .val (.long m1), .second, .val (.int c1), .val (.long j6), .second, .val (.int j10), .unset, .unset, .unset, .unset, .unset, .unset] [(.int c1), (.long m1)])) rfl (by rw [hml]; rfl) (argsL := [(.long m1), (.int c1)]) (rest := []) (lenOf pd_3 rfl) rfl (by show 2 * 0 + _ ≤ _; exact Nat.le_of_eq rfl) (hb hby at_53) (fun _ _ => ⟨rfl, e0, (by decide : 0 + 5 ≤ _), (by decide : 0 + 61 ≤ _)⟩)
  dsimp only [Pt.U, Pt.locs, Pt.cells, Pt.slots] at X14 l14 y14 z14 st14 hQ14 hS14 gr14
  subst l14 y14 z14
  have hS := hS.trans hS14 (Nat.le_trans hk (by rw [← show s₁.heap = h0 from e0]; exact gr14))
  have hZ : Z.Warmed39 (s.setVm T14.vm).vm := State.Warmed39.trans hZ hS14.1
  have hown : (s.setVm T14.vm).vm.findClass "com/example/fides/fides/HybridTimestampOfPinLaw" = some m.cls := by rw [show (s.setVm T14.vm).vm = T14.vm from rfl, hS14.1.alike.findClass]; exact hown
  have X14 : Stand p l e room_1 (s.setVm T14.vm) m #[(.long q0), (.int p1), (.long q2), (.int p3), (.int p4)] below meth c T14 _ _ _ := X14
  have hk : T14.heap.size ≤ T14.heap.size := Nat.le_refl _
  obtain ⟨b14, rfl, N14q, K14, g_b14, sz14, A14, F14⟩ := hQ14
  have N14 := Fr.app N0 N14q
  have z15 : n0 ≤ T14.heap.size := Nat.le_trans Z0 K14.1
  have kp16 : Keep h0 T14.heap [] := kp0.trans K14 all0
  have G17 : ∀ t, Steps p.tables e below (T14.setTop (mkF m 62 #[.val (.long q0), .second, .val (.int p1), .val (.long q2), .second, .val (.int p3), .val (.int p4), .val (.long m1), .second, .val (.int c1), .val (.long j6), .second, .val (.int j10), .val (.ref b14), .unset, .unset, .unset, .unset, .unset] [(.int j10), (.long j6)])) t → Steps p.tables e below (s₁.setTop (entryFrame m #[(.long q0), (.int p1), (.long q2), (.int p3), (.int p4)] maxLocals)) t := by
    intro t kt
    refine G13 _ ?_
    show Steps p.tables e below (s₁.setTop (mkF m 53 #[.val (.long q0), .second, .val (.int p1), .val (.long q2), .second, .val (.int p3), .val (.int p4), .val (.long m1), .second, .val (.int c1), .val (.long j6), .second, .val (.int j10), .unset, .unset, .unset, .unset, .unset, .unset] [(.int c1), (.long m1)])) _
    refine st14.trans ?_
    show Steps p.tables e below (T14.setTop (mkF m 56 #[.val (.long q0), .second, .val (.int p1), .val (.long q2), .second, .val (.int p3), .val (.int p4), .val (.long m1), .second, .val (.int c1), .val (.long j6), .second, .val (.int j10), .unset, .unset, .unset, .unset, .unset, .unset] [(.ref b14)])) _
    refine XS.astore X14.here hx rfl (hb hby at_56) rfl rfl (l' := #[.val (.long q0), .second, .val (.int p1), .val (.long q2), .second, .val (.int p3), .val (.int p4), .val (.long m1), .second, .val (.int c1), .val (.long j6), .second, .val (.int j10), .val (.ref b14), .unset, .unset, .unset, .unset, .unset]) rfl ?_
    show Steps p.tables e below (T14.setTop (mkF m 58 #[.val (.long q0), .second, .val (.int p1), .val (.long q2), .second, .val (.int p3), .val (.int p4), .val (.long m1), .second, .val (.int c1), .val (.long j6), .second, .val (.int j10), .val (.ref b14), .unset, .unset, .unset, .unset, .unset] [])) _
    refine XS.lload X14.here hx rfl (hb hby at_58) rfl ?_
    show Steps p.tables e below (T14.setTop (mkF m 60 #[.val (.long q0), .second, .val (.int p1), .val (.long q2), .second, .val (.int p3), .val (.int p4), .val (.long m1), .second, .val (.int c1), .val (.long j6), .second, .val (.int j10), .val (.ref b14), .unset, .unset, .unset, .unset, .unset] [(.long j6)])) _
    refine XS.iload X14.here hx rfl (hb hby at_60) rfl ?_
    exact kt
  obtain ⟨_, vm18, ⟨T18, L18, k18, n18⟩, -, X18, hS18, gr18, ⟨Lc18, hQ18, l18, y18, z18⟩, st18⟩ := callSS X14 hx (y := (⟨"com/example/fides/fides/HybridTimestamp", "of", "(JI)Lcom/example/fides/fides/HybridTimestamp;"⟩ : MethodName)) hown (mvT hZ (hw _ (List.mem_of_getElem? (i := 2) rfl))) (mvT hZ (hw _ (List.mem_of_getElem? (i := 3) rfl))) (mvT hZ (hw _ (List.mem_of_getElem? (i := 4) rfl))) (mvT hZ (hw _ (List.mem_of_getElem? (i := 5) rfl))) (by decide) (backOfS (W := 0) (rm1 l Z a0 hw [] j6 j10  T14.heap n0 z15 ml2 mh2 cl2 ch2) hZ (hw _ (List.mem_of_getElem? (i := 5) rfl)) (hw _ (List.mem_of_getElem? (i := 4) rfl)) (by decide) (by decide)) (g := (mkF m 62 #[.val (.long q0), .second, .val (.int p1), .val (.long q2), .second, .val (.int p3), .val (.int p4), .val (.long m1), .second, .val (.int c1), .val (.long j6), .second, .val (.int j10), .val (.ref b14), .unset, .unset, .unset, .unset, .unset] [(.int j10), (.long j6)])) rfl (by rw [hml]; rfl) (argsL := [(.long j6), (.int j10)]) (rest := []) (lenOf pd_3 rfl) rfl (by show 2 * 0 + _ ≤ _; exact Nat.le_of_eq rfl) (hb hby at_62) (fun _ _ => ⟨rfl, rfl, (by decide : 5 + 5 ≤ _), (by decide : 61 + 61 ≤ _)⟩)
  dsimp only [Pt.U, Pt.locs, Pt.cells, Pt.slots] at X18 l18 y18 z18 st18 hQ18 hS18 gr18
  subst l18 y18 z18
  have hS := hS.trans hS18 (Nat.le_trans hk (by rw [← show T14.heap = T14.heap from rfl]; exact gr18))
  have hZ : Z.Warmed39 (s.setVm T18.vm).vm := State.Warmed39.trans hZ hS18.1
  have hown : (s.setVm T18.vm).vm.findClass "com/example/fides/fides/HybridTimestampOfPinLaw" = some m.cls := by rw [show (s.setVm T18.vm).vm = T18.vm from rfl, hS18.1.alike.findClass]; exact hown
  have X18 : Stand p l e room_1 (s.setVm T18.vm) m #[(.long q0), (.int p1), (.long q2), (.int p3), (.int p4)] below meth c T18 _ _ _ := X18
  have hk : T18.heap.size ≤ T18.heap.size := Nat.le_refl _
  obtain ⟨b18, rfl, N18q, K18, g_b18, sz18, A18, F18⟩ := hQ18
  have N18 := Fr.app N14 N18q
  have ne_b14_b18 : b14 ≠ b18 := Nat.ne_of_lt (Nat.lt_of_lt_of_le A14.lt sz18)
  have f19 : Exa Z T18.heap b14 "com/example/fides/fides/HybridTimestamp" := A14.keep K18
  have f20 : Fld Z T18.heap b14 "com/example/fides/fides/HybridTimestamp" "bits" "J" (.long ((m1 <<< ((16 : Int32) &&& 0x3f).toInt64) ||| (c1.toInt64))) := F14.keep K18 nin0
  have z21 : n0 ≤ T18.heap.size := Nat.le_trans z15 K18.1
  have kp22 : Keep h0 T18.heap [] := kp16.trans K18 all0
  obtain ⟨cq23, kq23, q23a, q23b, q23c⟩ := isOf hZ rfl f19
  obtain ⟨_, _, ⟨T23, L23, k23, n23⟩, -, X23, ⟨Lc23, hQ23, l23, y23, z23⟩, st23⟩ := X18.virtualBack hx (y := (⟨"com/example/fides/fides/HybridTimestamp", "millis", "()J"⟩ : MethodName)) (z := (⟨"com/example/fides/fides/HybridTimestamp", "millis", "()J"⟩ : MethodName)) hown (mvT hZ (hw _ (List.mem_of_getElem? (i := 30) rfl))) (mvT hZ (hw _ (List.mem_of_getElem? (i := 31) rfl))) (notFace_of_selects (args := #[]) (mvT hZ (hw _ (List.mem_of_getElem? (i := 33) rfl)))) (mvT hZ (hw _ (List.mem_of_getElem? (i := 33) rfl))) (mvT hZ (hw _ (List.mem_of_getElem? (i := 32) rfl))) (by decide) (backOf (W := 0) (rm5 l Z a0 hw [] b14 ((m1 <<< ((16 : Int32) &&& 0x3f).toInt64) ||| (c1.toInt64)) T18.heap n0 z21 f20) hZ (hw _ (List.mem_of_getElem? (i := 34) rfl)) (hw _ (List.mem_of_getElem? (i := 4) rfl)) (by decide) (by decide)) q23a q23c (g := (mkF m 69 #[.val (.long q0), .second, .val (.int p1), .val (.long q2), .second, .val (.int p3), .val (.int p4), .val (.long m1), .second, .val (.int c1), .val (.long j6), .second, .val (.int j10), .val (.ref b14), .val (.ref b18), .unset, .unset, .unset, .unset] [(.ref b14)])) rfl (by rw [hml]; rfl) (Steps.refl _) (argsL := []) (rest := []) (lenOf pd_4 rfl) rfl (by show 2 * 0 + _ ≤ _; exact Nat.le_of_eq rfl) (hb hby at_69) (fun _ _ => ⟨rfl, rfl, (by decide : 10 + 0 ≤ _), (by decide : 122 + 0 ≤ _)⟩)
  dsimp only [Pt.U, Pt.locs, Pt.cells, Pt.slots] at X23 l23 y23 z23 st23 hQ23
  subst l23 y23 z23
  obtain ⟨rfl, N23q, eh23⟩ := hQ23
  have N23 := Fr.app N18 N23q
  have G24 : ∀ t, Steps p.tables e below (T23.setTop (mkF m 75 #[.val (.long q0), .second, .val (.int p1), .val (.long q2), .second, .val (.int p3), .val (.int p4), .val (.long m1), .second, .val (.int c1), .val (.long j6), .second, .val (.int j10), .val (.ref b14), .val (.ref b18), .unset, .unset, .unset, .unset] [(.int (lcmpW (fmillis ((m1 <<< ((16 : Int32) &&& 0x3f).toInt64) ||| (c1.toInt64))) m1))])) t → Steps p.tables e below (s₁.setTop (entryFrame m #[(.long q0), (.int p1), (.long q2), (.int p3), (.int p4)] maxLocals)) t := by
    intro t kt
    refine G17 _ ?_
    show Steps p.tables e below (T14.setTop (mkF m 62 #[.val (.long q0), .second, .val (.int p1), .val (.long q2), .second, .val (.int p3), .val (.int p4), .val (.long m1), .second, .val (.int c1), .val (.long j6), .second, .val (.int j10), .val (.ref b14), .unset, .unset, .unset, .unset, .unset] [(.int j10), (.long j6)])) _
    refine st18.trans ?_
    show Steps p.tables e below (T18.setTop (mkF m 65 #[.val (.long q0), .second, .val (.int p1), .val (.long q2), .second, .val (.int p3), .val (.int p4), .val (.long m1), .second, .val (.int c1), .val (.long j6), .second, .val (.int j10), .val (.ref b14), .unset, .unset, .unset, .unset, .unset] [(.ref b18)])) _
    refine XS.astore X18.here hx rfl (hb hby at_65) rfl rfl (l' := #[.val (.long q0), .second, .val (.int p1), .val (.long q2), .second, .val (.int p3), .val (.int p4), .val (.long m1), .second, .val (.int c1), .val (.long j6), .second, .val (.int j10), .val (.ref b14), .val (.ref b18), .unset, .unset, .unset, .unset]) rfl ?_
    show Steps p.tables e below (T18.setTop (mkF m 67 #[.val (.long q0), .second, .val (.int p1), .val (.long q2), .second, .val (.int p3), .val (.int p4), .val (.long m1), .second, .val (.int c1), .val (.long j6), .second, .val (.int j10), .val (.ref b14), .val (.ref b18), .unset, .unset, .unset, .unset] [])) _
    refine XS.aload X18.here hx rfl (hb hby at_67) rfl rfl ?_
    show Steps p.tables e below (T18.setTop (mkF m 69 #[.val (.long q0), .second, .val (.int p1), .val (.long q2), .second, .val (.int p3), .val (.int p4), .val (.long m1), .second, .val (.int c1), .val (.long j6), .second, .val (.int j10), .val (.ref b14), .val (.ref b18), .unset, .unset, .unset, .unset] [(.ref b14)])) _
    refine st23.trans ?_
    show Steps p.tables e below (T23.setTop (mkF m 72 #[.val (.long q0), .second, .val (.int p1), .val (.long q2), .second, .val (.int p3), .val (.int p4), .val (.long m1), .second, .val (.int c1), .val (.long j6), .second, .val (.int j10), .val (.ref b14), .val (.ref b18), .unset, .unset, .unset, .unset] [(.long (fmillis ((m1 <<< ((16 : Int32) &&& 0x3f).toInt64) ||| (c1.toInt64))))])) _
    refine XS.lload X23.here hx rfl (hb hby at_72) rfl ?_
    show Steps p.tables e below (T23.setTop (mkF m 74 #[.val (.long q0), .second, .val (.int p1), .val (.long q2), .second, .val (.int p3), .val (.int p4), .val (.long m1), .second, .val (.int c1), .val (.long j6), .second, .val (.int j10), .val (.ref b14), .val (.ref b18), .unset, .unset, .unset, .unset] [(.long m1), (.long (fmillis ((m1 <<< ((16 : Int32) &&& 0x3f).toInt64) ||| (c1.toInt64))))])) _
    refine XS.lcmp X23.here hx rfl (hb hby at_74) rfl ?_
    exact kt
  have hc75_25 : (fmillis ((m1 <<< ((16 : Int32) &&& 0x3f).toInt64) ||| (c1.toInt64))) = m1 := own_millis _ _ rm1' rc1'
  obtain ⟨cq26, kq26, q26a, q26b, q26c⟩ := isOf hZ eh23 f19
  obtain ⟨_, _, ⟨T26, L26, k26, n26⟩, -, X26, ⟨Lc26, hQ26, l26, y26, z26⟩, st26⟩ := X23.virtualBack hx (y := (⟨"com/example/fides/fides/HybridTimestamp", "counter", "()I"⟩ : MethodName)) (z := (⟨"com/example/fides/fides/HybridTimestamp", "counter", "()I"⟩ : MethodName)) hown (mvT hZ (hw _ (List.mem_of_getElem? (i := 35) rfl))) (mvT hZ (hw _ (List.mem_of_getElem? (i := 36) rfl))) (notFace_of_selects (args := #[]) (mvT hZ (hw _ (List.mem_of_getElem? (i := 38) rfl)))) (mvT hZ (hw _ (List.mem_of_getElem? (i := 38) rfl))) (mvT hZ (hw _ (List.mem_of_getElem? (i := 37) rfl))) (by decide) (backOf (W := 0) (rm6 l Z a0 hw [] b14 ((m1 <<< ((16 : Int32) &&& 0x3f).toInt64) ||| (c1.toInt64)) T18.heap n0 z21 f20) hZ (hw _ (List.mem_of_getElem? (i := 39) rfl)) (hw _ (List.mem_of_getElem? (i := 4) rfl)) (by decide) (by decide)) q26a q26c (g := (mkF m 80 #[.val (.long q0), .second, .val (.int p1), .val (.long q2), .second, .val (.int p3), .val (.int p4), .val (.long m1), .second, .val (.int c1), .val (.long j6), .second, .val (.int j10), .val (.ref b14), .val (.ref b18), .unset, .unset, .unset, .unset] [(.ref b14)])) rfl (by rw [hml]; rfl) (Steps.refl _) (argsL := []) (rest := []) (lenOf pd_5 rfl) rfl (by show 2 * 0 + _ ≤ _; exact Nat.le_of_eq rfl) (hb hby at_80) (fun _ _ => ⟨rfl, eh23, (by decide : 10 + 0 ≤ _), (by decide : 122 + 0 ≤ _)⟩)
  dsimp only [Pt.U, Pt.locs, Pt.cells, Pt.slots] at X26 l26 y26 z26 st26 hQ26
  subst l26 y26 z26
  obtain ⟨rfl, N26q, eh26⟩ := hQ26
  have N26 := Fr.app N23 N26q
  have G27 : ∀ t, Steps p.tables e below (T26.setTop (mkF m 85 #[.val (.long q0), .second, .val (.int p1), .val (.long q2), .second, .val (.int p3), .val (.int p4), .val (.long m1), .second, .val (.int c1), .val (.long j6), .second, .val (.int j10), .val (.ref b14), .val (.ref b18), .unset, .unset, .unset, .unset] [(.int c1), (.int (fcounter ((m1 <<< ((16 : Int32) &&& 0x3f).toInt64) ||| (c1.toInt64))))])) t → Steps p.tables e below (s₁.setTop (entryFrame m #[(.long q0), (.int p1), (.long q2), (.int p3), (.int p4)] maxLocals)) t := by
    intro t kt
    refine G24 _ ?_
    show Steps p.tables e below (T23.setTop (mkF m 75 #[.val (.long q0), .second, .val (.int p1), .val (.long q2), .second, .val (.int p3), .val (.int p4), .val (.long m1), .second, .val (.int c1), .val (.long j6), .second, .val (.int j10), .val (.ref b14), .val (.ref b18), .unset, .unset, .unset, .unset] [(.int (lcmpW (fmillis ((m1 <<< ((16 : Int32) &&& 0x3f).toInt64) ||| (c1.toInt64))) m1))])) _
    refine XS.ifNo X23.here hx rfl (hb hby at_75) rfl ((if0 _ _).trans (teq ((lw_eq _ _).mpr hc75_25)).2) ?_
    show Steps p.tables e below (T23.setTop (mkF m 78 #[.val (.long q0), .second, .val (.int p1), .val (.long q2), .second, .val (.int p3), .val (.int p4), .val (.long m1), .second, .val (.int c1), .val (.long j6), .second, .val (.int j10), .val (.ref b14), .val (.ref b18), .unset, .unset, .unset, .unset] [])) _
    refine XS.aload X23.here hx rfl (hb hby at_78) rfl rfl ?_
    show Steps p.tables e below (T23.setTop (mkF m 80 #[.val (.long q0), .second, .val (.int p1), .val (.long q2), .second, .val (.int p3), .val (.int p4), .val (.long m1), .second, .val (.int c1), .val (.long j6), .second, .val (.int j10), .val (.ref b14), .val (.ref b18), .unset, .unset, .unset, .unset] [(.ref b14)])) _
    refine st26.trans ?_
    show Steps p.tables e below (T26.setTop (mkF m 83 #[.val (.long q0), .second, .val (.int p1), .val (.long q2), .second, .val (.int p3), .val (.int p4), .val (.long m1), .second, .val (.int c1), .val (.long j6), .second, .val (.int j10), .val (.ref b14), .val (.ref b18), .unset, .unset, .unset, .unset] [(.int (fcounter ((m1 <<< ((16 : Int32) &&& 0x3f).toInt64) ||| (c1.toInt64))))])) _
    refine XS.iload X26.here hx rfl (hb hby at_83) rfl ?_
    exact kt
  have hc85_28 : (fcounter ((m1 <<< ((16 : Int32) &&& 0x3f).toInt64) ||| (c1.toInt64))) = c1 := own_counter _ _ rm1' rc1'
  obtain ⟨cq29, kq29, q29a, q29b, q29c⟩ := isOf hZ eh26 A18
  obtain ⟨_, _, ⟨T29, L29, k29, n29⟩, -, X29, ⟨Lc29, hQ29, l29, y29, z29⟩, st29⟩ := X26.virtualBack hx (y := (⟨"com/example/fides/fides/HybridTimestamp", "millis", "()J"⟩ : MethodName)) (z := (⟨"com/example/fides/fides/HybridTimestamp", "millis", "()J"⟩ : MethodName)) hown (mvT hZ (hw _ (List.mem_of_getElem? (i := 30) rfl))) (mvT hZ (hw _ (List.mem_of_getElem? (i := 31) rfl))) (notFace_of_selects (args := #[]) (mvT hZ (hw _ (List.mem_of_getElem? (i := 33) rfl)))) (mvT hZ (hw _ (List.mem_of_getElem? (i := 33) rfl))) (mvT hZ (hw _ (List.mem_of_getElem? (i := 32) rfl))) (by decide) (backOf (W := 0) (rm5 l Z a0 hw [] b18 ((j6 <<< ((16 : Int32) &&& 0x3f).toInt64) ||| (j10.toInt64)) T18.heap n0 z21 F18) hZ (hw _ (List.mem_of_getElem? (i := 34) rfl)) (hw _ (List.mem_of_getElem? (i := 4) rfl)) (by decide) (by decide)) q29a q29c (g := (mkF m 90 #[.val (.long q0), .second, .val (.int p1), .val (.long q2), .second, .val (.int p3), .val (.int p4), .val (.long m1), .second, .val (.int c1), .val (.long j6), .second, .val (.int j10), .val (.ref b14), .val (.ref b18), .unset, .unset, .unset, .unset] [(.ref b18)])) rfl (by rw [hml]; rfl) (Steps.refl _) (argsL := []) (rest := []) (lenOf pd_4 rfl) rfl (by show 2 * 0 + _ ≤ _; exact Nat.le_of_eq rfl) (hb hby at_90) (fun _ _ => ⟨rfl, eh26, (by decide : 10 + 0 ≤ _), (by decide : 122 + 0 ≤ _)⟩)
  dsimp only [Pt.U, Pt.locs, Pt.cells, Pt.slots] at X29 l29 y29 z29 st29 hQ29
  subst l29 y29 z29
  obtain ⟨rfl, N29q, eh29⟩ := hQ29
  have N29 := Fr.app N26 N29q
  have G30 : ∀ t, Steps p.tables e below (T29.setTop (mkF m 96 #[.val (.long q0), .second, .val (.int p1), .val (.long q2), .second, .val (.int p3), .val (.int p4), .val (.long m1), .second, .val (.int c1), .val (.long j6), .second, .val (.int j10), .val (.ref b14), .val (.ref b18), .unset, .unset, .unset, .unset] [(.int (lcmpW (fmillis ((j6 <<< ((16 : Int32) &&& 0x3f).toInt64) ||| (j10.toInt64))) j6))])) t → Steps p.tables e below (s₁.setTop (entryFrame m #[(.long q0), (.int p1), (.long q2), (.int p3), (.int p4)] maxLocals)) t := by
    intro t kt
    refine G27 _ ?_
    show Steps p.tables e below (T26.setTop (mkF m 85 #[.val (.long q0), .second, .val (.int p1), .val (.long q2), .second, .val (.int p3), .val (.int p4), .val (.long m1), .second, .val (.int c1), .val (.long j6), .second, .val (.int j10), .val (.ref b14), .val (.ref b18), .unset, .unset, .unset, .unset] [(.int c1), (.int (fcounter ((m1 <<< ((16 : Int32) &&& 0x3f).toInt64) ||| (c1.toInt64))))])) _
    refine XS.icmpNo X26.here hx rfl (hb hby at_85) rfl (teq hc85_28).2 ?_
    show Steps p.tables e below (T26.setTop (mkF m 88 #[.val (.long q0), .second, .val (.int p1), .val (.long q2), .second, .val (.int p3), .val (.int p4), .val (.long m1), .second, .val (.int c1), .val (.long j6), .second, .val (.int j10), .val (.ref b14), .val (.ref b18), .unset, .unset, .unset, .unset] [])) _
    refine XS.aload X26.here hx rfl (hb hby at_88) rfl rfl ?_
    show Steps p.tables e below (T26.setTop (mkF m 90 #[.val (.long q0), .second, .val (.int p1), .val (.long q2), .second, .val (.int p3), .val (.int p4), .val (.long m1), .second, .val (.int c1), .val (.long j6), .second, .val (.int j10), .val (.ref b14), .val (.ref b18), .unset, .unset, .unset, .unset] [(.ref b18)])) _
    refine st29.trans ?_
    show Steps p.tables e below (T29.setTop (mkF m 93 #[.val (.long q0), .second, .val (.int p1), .val (.long q2), .second, .val (.int p3), .val (.int p4), .val (.long m1), .second, .val (.int c1), .val (.long j6), .second, .val (.int j10), .val (.ref b14), .val (.ref b18), .unset, .unset, .unset, .unset] [(.long (fmillis ((j6 <<< ((16 : Int32) &&& 0x3f).toInt64) ||| (j10.toInt64))))])) _
    refine XS.lload X29.here hx rfl (hb hby at_93) rfl ?_
    show Steps p.tables e below (T29.setTop (mkF m 95 #[.val (.long q0), .second, .val (.int p1), .val (.long q2), .second, .val (.int p3), .val (.int p4), .val (.long m1), .second, .val (.int c1), .val (.long j6), .second, .val (.int j10), .val (.ref b14), .val (.ref b18), .unset, .unset, .unset, .unset] [(.long j6), (.long (fmillis ((j6 <<< ((16 : Int32) &&& 0x3f).toInt64) ||| (j10.toInt64))))])) _
    refine XS.lcmp X29.here hx rfl (hb hby at_95) rfl ?_
    exact kt
  have hc96_31 : (fmillis ((j6 <<< ((16 : Int32) &&& 0x3f).toInt64) ||| (j10.toInt64))) = j6 := own_millis _ _ rm2' rc2'
  obtain ⟨cq32, kq32, q32a, q32b, q32c⟩ := isOf hZ eh29 A18
  obtain ⟨_, _, ⟨T32, L32, k32, n32⟩, -, X32, ⟨Lc32, hQ32, l32, y32, z32⟩, st32⟩ := X29.virtualBack hx (y := (⟨"com/example/fides/fides/HybridTimestamp", "counter", "()I"⟩ : MethodName)) (z := (⟨"com/example/fides/fides/HybridTimestamp", "counter", "()I"⟩ : MethodName)) hown (mvT hZ (hw _ (List.mem_of_getElem? (i := 35) rfl))) (mvT hZ (hw _ (List.mem_of_getElem? (i := 36) rfl))) (notFace_of_selects (args := #[]) (mvT hZ (hw _ (List.mem_of_getElem? (i := 38) rfl)))) (mvT hZ (hw _ (List.mem_of_getElem? (i := 38) rfl))) (mvT hZ (hw _ (List.mem_of_getElem? (i := 37) rfl))) (by decide) (backOf (W := 0) (rm6 l Z a0 hw [] b18 ((j6 <<< ((16 : Int32) &&& 0x3f).toInt64) ||| (j10.toInt64)) T18.heap n0 z21 F18) hZ (hw _ (List.mem_of_getElem? (i := 39) rfl)) (hw _ (List.mem_of_getElem? (i := 4) rfl)) (by decide) (by decide)) q32a q32c (g := (mkF m 101 #[.val (.long q0), .second, .val (.int p1), .val (.long q2), .second, .val (.int p3), .val (.int p4), .val (.long m1), .second, .val (.int c1), .val (.long j6), .second, .val (.int j10), .val (.ref b14), .val (.ref b18), .unset, .unset, .unset, .unset] [(.ref b18)])) rfl (by rw [hml]; rfl) (Steps.refl _) (argsL := []) (rest := []) (lenOf pd_5 rfl) rfl (by show 2 * 0 + _ ≤ _; exact Nat.le_of_eq rfl) (hb hby at_101) (fun _ _ => ⟨rfl, eh29, (by decide : 10 + 0 ≤ _), (by decide : 122 + 0 ≤ _)⟩)
  dsimp only [Pt.U, Pt.locs, Pt.cells, Pt.slots] at X32 l32 y32 z32 st32 hQ32
  subst l32 y32 z32
  obtain ⟨rfl, N32q, eh32⟩ := hQ32
  have N32 := Fr.app N29 N32q
  have G33 : ∀ t, Steps p.tables e below (T32.setTop (mkF m 106 #[.val (.long q0), .second, .val (.int p1), .val (.long q2), .second, .val (.int p3), .val (.int p4), .val (.long m1), .second, .val (.int c1), .val (.long j6), .second, .val (.int j10), .val (.ref b14), .val (.ref b18), .unset, .unset, .unset, .unset] [(.int j10), (.int (fcounter ((j6 <<< ((16 : Int32) &&& 0x3f).toInt64) ||| (j10.toInt64))))])) t → Steps p.tables e below (s₁.setTop (entryFrame m #[(.long q0), (.int p1), (.long q2), (.int p3), (.int p4)] maxLocals)) t := by
    intro t kt
    refine G30 _ ?_
    show Steps p.tables e below (T29.setTop (mkF m 96 #[.val (.long q0), .second, .val (.int p1), .val (.long q2), .second, .val (.int p3), .val (.int p4), .val (.long m1), .second, .val (.int c1), .val (.long j6), .second, .val (.int j10), .val (.ref b14), .val (.ref b18), .unset, .unset, .unset, .unset] [(.int (lcmpW (fmillis ((j6 <<< ((16 : Int32) &&& 0x3f).toInt64) ||| (j10.toInt64))) j6))])) _
    refine XS.ifNo X29.here hx rfl (hb hby at_96) rfl ((if0 _ _).trans (teq ((lw_eq _ _).mpr hc96_31)).2) ?_
    show Steps p.tables e below (T29.setTop (mkF m 99 #[.val (.long q0), .second, .val (.int p1), .val (.long q2), .second, .val (.int p3), .val (.int p4), .val (.long m1), .second, .val (.int c1), .val (.long j6), .second, .val (.int j10), .val (.ref b14), .val (.ref b18), .unset, .unset, .unset, .unset] [])) _
    refine XS.aload X29.here hx rfl (hb hby at_99) rfl rfl ?_
    show Steps p.tables e below (T29.setTop (mkF m 101 #[.val (.long q0), .second, .val (.int p1), .val (.long q2), .second, .val (.int p3), .val (.int p4), .val (.long m1), .second, .val (.int c1), .val (.long j6), .second, .val (.int j10), .val (.ref b14), .val (.ref b18), .unset, .unset, .unset, .unset] [(.ref b18)])) _
    refine st32.trans ?_
    show Steps p.tables e below (T32.setTop (mkF m 104 #[.val (.long q0), .second, .val (.int p1), .val (.long q2), .second, .val (.int p3), .val (.int p4), .val (.long m1), .second, .val (.int c1), .val (.long j6), .second, .val (.int j10), .val (.ref b14), .val (.ref b18), .unset, .unset, .unset, .unset] [(.int (fcounter ((j6 <<< ((16 : Int32) &&& 0x3f).toInt64) ||| (j10.toInt64))))])) _
    refine XS.iload X32.here hx rfl (hb hby at_104) rfl ?_
    exact kt
  have hc106_34 : (fcounter ((j6 <<< ((16 : Int32) &&& 0x3f).toInt64) ||| (j10.toInt64))) = j10 := own_counter _ _ rm2' rc2'
  have G35 : ∀ t, Steps p.tables e below (T32.setTop (mkF m 124 #[.val (.long q0), .second, .val (.int p1), .val (.long q2), .second, .val (.int p3), .val (.int p4), .val (.long m1), .second, .val (.int c1), .val (.long j6), .second, .val (.int j10), .val (.ref b14), .val (.ref b18), .val (.int (1 : Int32)), .unset, .unset, .unset] [(.int j10), (.long j6), (.int c1), (.long m1)])) t → Steps p.tables e below (s₁.setTop (entryFrame m #[(.long q0), (.int p1), (.long q2), (.int p3), (.int p4)] maxLocals)) t := by
    intro t kt
    refine G33 _ ?_
    show Steps p.tables e below (T32.setTop (mkF m 106 #[.val (.long q0), .second, .val (.int p1), .val (.long q2), .second, .val (.int p3), .val (.int p4), .val (.long m1), .second, .val (.int c1), .val (.long j6), .second, .val (.int j10), .val (.ref b14), .val (.ref b18), .unset, .unset, .unset, .unset] [(.int j10), (.int (fcounter ((j6 <<< ((16 : Int32) &&& 0x3f).toInt64) ||| (j10.toInt64))))])) _
    refine XS.icmpNo X32.here hx rfl (hb hby at_106) rfl (teq hc106_34).2 ?_
    show Steps p.tables e below (T32.setTop (mkF m 109 #[.val (.long q0), .second, .val (.int p1), .val (.long q2), .second, .val (.int p3), .val (.int p4), .val (.long m1), .second, .val (.int c1), .val (.long j6), .second, .val (.int j10), .val (.ref b14), .val (.ref b18), .unset, .unset, .unset, .unset] [])) _
    refine XS.iconst X32.here hx rfl (hb hby at_109) ?_
    show Steps p.tables e below (T32.setTop (mkF m 110 #[.val (.long q0), .second, .val (.int p1), .val (.long q2), .second, .val (.int p3), .val (.int p4), .val (.long m1), .second, .val (.int c1), .val (.long j6), .second, .val (.int j10), .val (.ref b14), .val (.ref b18), .unset, .unset, .unset, .unset] [(.int (1 : Int32))])) _
    refine XS.goto X32.here hx rfl (pc0 := 110) (pc' := 114) rfl (hb hby at_110) (by decide) (by decide) ?_
    show Steps p.tables e below (T32.setTop (mkF m 114 #[.val (.long q0), .second, .val (.int p1), .val (.long q2), .second, .val (.int p3), .val (.int p4), .val (.long m1), .second, .val (.int c1), .val (.long j6), .second, .val (.int j10), .val (.ref b14), .val (.ref b18), .unset, .unset, .unset, .unset] [(.int (1 : Int32))])) _
    refine XS.istore X32.here hx rfl (hb hby at_114) rfl (l' := #[.val (.long q0), .second, .val (.int p1), .val (.long q2), .second, .val (.int p3), .val (.int p4), .val (.long m1), .second, .val (.int c1), .val (.long j6), .second, .val (.int j10), .val (.ref b14), .val (.ref b18), .val (.int (1 : Int32)), .unset, .unset, .unset]) rfl ?_
    show Steps p.tables e below (T32.setTop (mkF m 116 #[.val (.long q0), .second, .val (.int p1), .val (.long q2), .second, .val (.int p3), .val (.int p4), .val (.long m1), .second, .val (.int c1), .val (.long j6), .second, .val (.int j10), .val (.ref b14), .val (.ref b18), .val (.int (1 : Int32)), .unset, .unset, .unset] [])) _
    refine XS.lload X32.here hx rfl (hb hby at_116) rfl ?_
    show Steps p.tables e below (T32.setTop (mkF m 118 #[.val (.long q0), .second, .val (.int p1), .val (.long q2), .second, .val (.int p3), .val (.int p4), .val (.long m1), .second, .val (.int c1), .val (.long j6), .second, .val (.int j10), .val (.ref b14), .val (.ref b18), .val (.int (1 : Int32)), .unset, .unset, .unset] [(.long m1)])) _
    refine XS.iload X32.here hx rfl (hb hby at_118) rfl ?_
    show Steps p.tables e below (T32.setTop (mkF m 120 #[.val (.long q0), .second, .val (.int p1), .val (.long q2), .second, .val (.int p3), .val (.int p4), .val (.long m1), .second, .val (.int c1), .val (.long j6), .second, .val (.int j10), .val (.ref b14), .val (.ref b18), .val (.int (1 : Int32)), .unset, .unset, .unset] [(.int c1), (.long m1)])) _
    refine XS.lload X32.here hx rfl (hb hby at_120) rfl ?_
    show Steps p.tables e below (T32.setTop (mkF m 122 #[.val (.long q0), .second, .val (.int p1), .val (.long q2), .second, .val (.int p3), .val (.int p4), .val (.long m1), .second, .val (.int c1), .val (.long j6), .second, .val (.int j10), .val (.ref b14), .val (.ref b18), .val (.int (1 : Int32)), .unset, .unset, .unset] [(.long j6), (.int c1), (.long m1)])) _
    refine XS.iload X32.here hx rfl (hb hby at_122) rfl ?_
    exact kt
  obtain ⟨_, _, ⟨T36, L36, k36, n36⟩, -, X36, ⟨Lc36, hQ36, l36, y36, z36⟩, st36⟩ := Jvm.LawKit.callS X32 hx (y := (⟨"com/example/fides/fides/HybridTimestampOfPinLaw", "lexCompare", "(JIJI)I"⟩ : MethodName)) hown (mvT hZ (hw _ (List.mem_of_getElem? (i := 40) rfl))) (mvT hZ (hw _ (List.mem_of_getElem? (i := 41) rfl))) (mvT hZ (hw _ (List.mem_of_getElem? (i := 42) rfl))) (mvT hZ (hw _ (List.mem_of_getElem? (i := 43) rfl))) (by decide) (backOf (W := 0) (rm7 l Z a0 hw [] m1 c1 j6 j10  T18.heap n0 z21 ) hZ (hw _ (List.mem_of_getElem? (i := 43) rfl)) (hw _ (List.mem_of_getElem? (i := 42) rfl)) (by decide) (by decide)) (g := (mkF m 124 #[.val (.long q0), .second, .val (.int p1), .val (.long q2), .second, .val (.int p3), .val (.int p4), .val (.long m1), .second, .val (.int c1), .val (.long j6), .second, .val (.int j10), .val (.ref b14), .val (.ref b18), .val (.int (1 : Int32)), .unset, .unset, .unset] [(.int j10), (.long j6), (.int c1), (.long m1)])) rfl (by rw [hml]; rfl) (argsL := [(.long m1), (.int c1), (.long j6), (.int j10)]) (rest := []) (lenOf pd_6 rfl) rfl (by show 2 * 0 + _ ≤ _; exact Nat.le_of_eq rfl) (hb hby at_124) (fun _ _ => ⟨rfl, eh32, (by decide : 10 + 0 ≤ _), (by decide : 122 + 0 ≤ _)⟩)
  dsimp only [Pt.U, Pt.locs, Pt.cells, Pt.slots] at X36 l36 y36 z36 st36 hQ36
  subst l36 y36 z36
  obtain ⟨rfl, N36q, eh36⟩ := hQ36
  have N36 := Fr.app N32 N36q
  obtain ⟨cq37, kq37, q37a, q37b, q37c⟩ := isOf hZ eh36 f19
  obtain ⟨_, _, ⟨T37, L37, k37, n37⟩, -, X37, ⟨Lc37, hQ37, l37, y37, z37⟩, st37⟩ := X36.virtualBack hx (y := (⟨"com/example/fides/fides/HybridTimestamp", "compareTo", "(Lcom/example/fides/fides/HybridTimestamp;)I"⟩ : MethodName)) (z := (⟨"com/example/fides/fides/HybridTimestamp", "compareTo", "(Lcom/example/fides/fides/HybridTimestamp;)I"⟩ : MethodName)) hown (mvT hZ (hw _ (List.mem_of_getElem? (i := 44) rfl))) (mvT hZ (hw _ (List.mem_of_getElem? (i := 45) rfl))) (notFace_of_selects (args := #[]) (mvT hZ (hw _ (List.mem_of_getElem? (i := 47) rfl)))) (mvT hZ (hw _ (List.mem_of_getElem? (i := 47) rfl))) (mvT hZ (hw _ (List.mem_of_getElem? (i := 46) rfl))) (by decide) (backOf (W := 0) (rm8 l Z a0 hw [] b14 b18 ((m1 <<< ((16 : Int32) &&& 0x3f).toInt64) ||| (c1.toInt64)) ((j6 <<< ((16 : Int32) &&& 0x3f).toInt64) ||| (j10.toInt64)) T18.heap n0 z21 f20 F18) hZ (hw _ (List.mem_of_getElem? (i := 48) rfl)) (hw _ (List.mem_of_getElem? (i := 4) rfl)) (by decide) (by decide)) q37a q37c (g := (mkF m 133 #[.val (.long q0), .second, .val (.int p1), .val (.long q2), .second, .val (.int p3), .val (.int p4), .val (.long m1), .second, .val (.int c1), .val (.long j6), .second, .val (.int j10), .val (.ref b14), .val (.ref b18), .val (.int (1 : Int32)), .val (.int (flex m1 c1 j6 j10)), .unset, .unset] [(.ref b18), (.ref b14)])) rfl (by rw [hml]; rfl) (Steps.refl _) (argsL := [(.ref b18)]) (rest := []) (lenOf pd_7 rfl) rfl (by show 2 * 0 + _ ≤ _; exact Nat.le_of_eq rfl) (hb hby at_133) (fun _ _ => ⟨rfl, eh36, (by decide : 10 + 0 ≤ _), (by decide : 122 + 0 ≤ _)⟩)
  dsimp only [Pt.U, Pt.locs, Pt.cells, Pt.slots] at X37 l37 y37 z37 st37 hQ37
  subst l37 y37 z37
  obtain ⟨rfl, N37q, eh37⟩ := hQ37
  have N37 := Fr.app N36 N37q
  have G38 : ∀ t, Steps p.tables e below (T37.setTop (mkF m 136 #[.val (.long q0), .second, .val (.int p1), .val (.long q2), .second, .val (.int p3), .val (.int p4), .val (.long m1), .second, .val (.int c1), .val (.long j6), .second, .val (.int j10), .val (.ref b14), .val (.ref b18), .val (.int (1 : Int32)), .val (.int (flex m1 c1 j6 j10)), .unset, .unset] [(.int (fcu ((m1 <<< ((16 : Int32) &&& 0x3f).toInt64) ||| (c1.toInt64)) ((j6 <<< ((16 : Int32) &&& 0x3f).toInt64) ||| (j10.toInt64))))])) t → Steps p.tables e below (s₁.setTop (entryFrame m #[(.long q0), (.int p1), (.long q2), (.int p3), (.int p4)] maxLocals)) t := by
    intro t kt
    refine G35 _ ?_
    show Steps p.tables e below (T32.setTop (mkF m 124 #[.val (.long q0), .second, .val (.int p1), .val (.long q2), .second, .val (.int p3), .val (.int p4), .val (.long m1), .second, .val (.int c1), .val (.long j6), .second, .val (.int j10), .val (.ref b14), .val (.ref b18), .val (.int (1 : Int32)), .unset, .unset, .unset] [(.int j10), (.long j6), (.int c1), (.long m1)])) _
    refine st36 _ ?_
    show Steps p.tables e below (T36.setTop (mkF m 127 #[.val (.long q0), .second, .val (.int p1), .val (.long q2), .second, .val (.int p3), .val (.int p4), .val (.long m1), .second, .val (.int c1), .val (.long j6), .second, .val (.int j10), .val (.ref b14), .val (.ref b18), .val (.int (1 : Int32)), .unset, .unset, .unset] [(.int (flex m1 c1 j6 j10))])) _
    refine XS.istore X36.here hx rfl (hb hby at_127) rfl (l' := #[.val (.long q0), .second, .val (.int p1), .val (.long q2), .second, .val (.int p3), .val (.int p4), .val (.long m1), .second, .val (.int c1), .val (.long j6), .second, .val (.int j10), .val (.ref b14), .val (.ref b18), .val (.int (1 : Int32)), .val (.int (flex m1 c1 j6 j10)), .unset, .unset]) rfl ?_
    show Steps p.tables e below (T36.setTop (mkF m 129 #[.val (.long q0), .second, .val (.int p1), .val (.long q2), .second, .val (.int p3), .val (.int p4), .val (.long m1), .second, .val (.int c1), .val (.long j6), .second, .val (.int j10), .val (.ref b14), .val (.ref b18), .val (.int (1 : Int32)), .val (.int (flex m1 c1 j6 j10)), .unset, .unset] [])) _
    refine XS.aload X36.here hx rfl (hb hby at_129) rfl rfl ?_
    show Steps p.tables e below (T36.setTop (mkF m 131 #[.val (.long q0), .second, .val (.int p1), .val (.long q2), .second, .val (.int p3), .val (.int p4), .val (.long m1), .second, .val (.int c1), .val (.long j6), .second, .val (.int j10), .val (.ref b14), .val (.ref b18), .val (.int (1 : Int32)), .val (.int (flex m1 c1 j6 j10)), .unset, .unset] [(.ref b14)])) _
    refine XS.aload X36.here hx rfl (hb hby at_131) rfl rfl ?_
    show Steps p.tables e below (T36.setTop (mkF m 133 #[.val (.long q0), .second, .val (.int p1), .val (.long q2), .second, .val (.int p3), .val (.int p4), .val (.long m1), .second, .val (.int c1), .val (.long j6), .second, .val (.int j10), .val (.ref b14), .val (.ref b18), .val (.int (1 : Int32)), .val (.int (flex m1 c1 j6 j10)), .unset, .unset] [(.ref b18), (.ref b14)])) _
    refine st37.trans ?_
    exact kt
  obtain ⟨_, _, ⟨T39, L39, k39, n39⟩, -, X39, ⟨Lc39, hQ39, l39, y39, z39⟩, st39⟩ := Jvm.LawKit.callS X37 hx (y := (⟨"com/example/fides/fides/HybridTimestampOfPinLaw", "sign", "(I)I"⟩ : MethodName)) hown (mvT hZ (hw _ (List.mem_of_getElem? (i := 57) rfl))) (mvT hZ (hw _ (List.mem_of_getElem? (i := 58) rfl))) (mvT hZ (hw _ (List.mem_of_getElem? (i := 42) rfl))) (mvT hZ (hw _ (List.mem_of_getElem? (i := 59) rfl))) (by decide) (backOf (W := 0) (rm11 l Z a0 hw [] (fcu ((m1 <<< ((16 : Int32) &&& 0x3f).toInt64) ||| (c1.toInt64)) ((j6 <<< ((16 : Int32) &&& 0x3f).toInt64) ||| (j10.toInt64)))  T18.heap n0 z21 ) hZ (hw _ (List.mem_of_getElem? (i := 59) rfl)) (hw _ (List.mem_of_getElem? (i := 42) rfl)) (by decide) (by decide)) (g := (mkF m 136 #[.val (.long q0), .second, .val (.int p1), .val (.long q2), .second, .val (.int p3), .val (.int p4), .val (.long m1), .second, .val (.int c1), .val (.long j6), .second, .val (.int j10), .val (.ref b14), .val (.ref b18), .val (.int (1 : Int32)), .val (.int (flex m1 c1 j6 j10)), .unset, .unset] [(.int (fcu ((m1 <<< ((16 : Int32) &&& 0x3f).toInt64) ||| (c1.toInt64)) ((j6 <<< ((16 : Int32) &&& 0x3f).toInt64) ||| (j10.toInt64))))])) rfl (by rw [hml]; rfl) (argsL := [(.int (fcu ((m1 <<< ((16 : Int32) &&& 0x3f).toInt64) ||| (c1.toInt64)) ((j6 <<< ((16 : Int32) &&& 0x3f).toInt64) ||| (j10.toInt64))))]) (rest := []) (lenOf pd_8 rfl) rfl (by show 2 * 0 + _ ≤ _; exact Nat.le_of_eq rfl) (hb hby at_136) (fun _ _ => ⟨rfl, eh37, (by decide : 10 + 0 ≤ _), (by decide : 122 + 0 ≤ _)⟩)
  dsimp only [Pt.U, Pt.locs, Pt.cells, Pt.slots] at X39 l39 y39 z39 st39 hQ39
  subst l39 y39 z39
  obtain ⟨rfl, N39q, eh39⟩ := hQ39
  have N39 := Fr.app N37 N39q
  have G40 : ∀ t, Steps p.tables e below (T39.setTop (mkF m 141 #[.val (.long q0), .second, .val (.int p1), .val (.long q2), .second, .val (.int p3), .val (.int p4), .val (.long m1), .second, .val (.int c1), .val (.long j6), .second, .val (.int j10), .val (.ref b14), .val (.ref b18), .val (.int (1 : Int32)), .val (.int (flex m1 c1 j6 j10)), .unset, .unset] [(.int (flex m1 c1 j6 j10)), (.int (fsign (fcu ((m1 <<< ((16 : Int32) &&& 0x3f).toInt64) ||| (c1.toInt64)) ((j6 <<< ((16 : Int32) &&& 0x3f).toInt64) ||| (j10.toInt64)))))])) t → Steps p.tables e below (s₁.setTop (entryFrame m #[(.long q0), (.int p1), (.long q2), (.int p3), (.int p4)] maxLocals)) t := by
    intro t kt
    refine G38 _ ?_
    show Steps p.tables e below (T37.setTop (mkF m 136 #[.val (.long q0), .second, .val (.int p1), .val (.long q2), .second, .val (.int p3), .val (.int p4), .val (.long m1), .second, .val (.int c1), .val (.long j6), .second, .val (.int j10), .val (.ref b14), .val (.ref b18), .val (.int (1 : Int32)), .val (.int (flex m1 c1 j6 j10)), .unset, .unset] [(.int (fcu ((m1 <<< ((16 : Int32) &&& 0x3f).toInt64) ||| (c1.toInt64)) ((j6 <<< ((16 : Int32) &&& 0x3f).toInt64) ||| (j10.toInt64))))])) _
    refine st39 _ ?_
    show Steps p.tables e below (T39.setTop (mkF m 139 #[.val (.long q0), .second, .val (.int p1), .val (.long q2), .second, .val (.int p3), .val (.int p4), .val (.long m1), .second, .val (.int c1), .val (.long j6), .second, .val (.int j10), .val (.ref b14), .val (.ref b18), .val (.int (1 : Int32)), .val (.int (flex m1 c1 j6 j10)), .unset, .unset] [(.int (fsign (fcu ((m1 <<< ((16 : Int32) &&& 0x3f).toInt64) ||| (c1.toInt64)) ((j6 <<< ((16 : Int32) &&& 0x3f).toInt64) ||| (j10.toInt64)))))])) _
    refine XS.iload X39.here hx rfl (hb hby at_139) rfl ?_
    exact kt
  have hc141_41 : (fsign (fcu ((m1 <<< ((16 : Int32) &&& 0x3f).toInt64) ||| (c1.toInt64)) ((j6 <<< ((16 : Int32) &&& 0x3f).toInt64) ||| (j10.toInt64)))) = (flex m1 c1 j6 j10) := hord.1
  obtain ⟨cq42, kq42, q42a, q42b, q42c⟩ := isOf hZ eh39 f19
  obtain ⟨_, _, ⟨T42, L42, k42, n42⟩, -, X42, ⟨Lc42, hQ42, l42, y42, z42⟩, st42⟩ := X39.virtualBack hx (y := (⟨"com/example/fides/fides/HybridTimestamp", "equals", "(Ljava/lang/Object;)Z"⟩ : MethodName)) (z := (⟨"com/example/fides/fides/HybridTimestamp", "equals", "(Ljava/lang/Object;)Z"⟩ : MethodName)) hown (mvT hZ (hw _ (List.mem_of_getElem? (i := 60) rfl))) (mvT hZ (hw _ (List.mem_of_getElem? (i := 61) rfl))) (notFace_of_selects (args := #[]) (mvT hZ (hw _ (List.mem_of_getElem? (i := 63) rfl)))) (mvT hZ (hw _ (List.mem_of_getElem? (i := 63) rfl))) (mvT hZ (hw _ (List.mem_of_getElem? (i := 62) rfl))) (by decide) (backOf (W := 0) (rm12 l Z a0 hw [] b14 b18 ((m1 <<< ((16 : Int32) &&& 0x3f).toInt64) ||| (c1.toInt64)) ((j6 <<< ((16 : Int32) &&& 0x3f).toInt64) ||| (j10.toInt64)) T18.heap n0 z21 f20 F18 A18) hZ (hw _ (List.mem_of_getElem? (i := 64) rfl)) (hw _ (List.mem_of_getElem? (i := 4) rfl)) (by decide) (by decide)) q42a q42c (g := (mkF m 155 #[.val (.long q0), .second, .val (.int p1), .val (.long q2), .second, .val (.int p3), .val (.int p4), .val (.long m1), .second, .val (.int c1), .val (.long j6), .second, .val (.int j10), .val (.ref b14), .val (.ref b18), .val (.int (1 : Int32)), .val (.int (flex m1 c1 j6 j10)), .val (.int (1 : Int32)), .unset] [(.ref b18), (.ref b14)])) rfl (by rw [hml]; rfl) (Steps.refl _) (argsL := [(.ref b18)]) (rest := []) (lenOf pd_9 rfl) rfl (by show 2 * 0 + _ ≤ _; exact Nat.le_of_eq rfl) (hb hby at_155) (fun _ _ => ⟨rfl, eh39, (by decide : 10 + 0 ≤ _), (by decide : 122 + 0 ≤ _)⟩)
  dsimp only [Pt.U, Pt.locs, Pt.cells, Pt.slots] at X42 l42 y42 z42 st42 hQ42
  subst l42 y42 z42
  obtain ⟨rfl, N42q, eh42⟩ := hQ42
  have N42 := Fr.app N39 N42q
  have G43 : ∀ t, Steps p.tables e below (T42.setTop (mkF m 160 #[.val (.long q0), .second, .val (.int p1), .val (.long q2), .second, .val (.int p3), .val (.int p4), .val (.long m1), .second, .val (.int c1), .val (.long j6), .second, .val (.int j10), .val (.ref b14), .val (.ref b18), .val (.int (1 : Int32)), .val (.int (flex m1 c1 j6 j10)), .val (.int (1 : Int32)), .unset] [(.int (flex m1 c1 j6 j10)), (.int (fequ ((m1 <<< ((16 : Int32) &&& 0x3f).toInt64) ||| (c1.toInt64)) ((j6 <<< ((16 : Int32) &&& 0x3f).toInt64) ||| (j10.toInt64))))])) t → Steps p.tables e below (s₁.setTop (entryFrame m #[(.long q0), (.int p1), (.long q2), (.int p3), (.int p4)] maxLocals)) t := by
    intro t kt
    refine G40 _ ?_
    show Steps p.tables e below (T39.setTop (mkF m 141 #[.val (.long q0), .second, .val (.int p1), .val (.long q2), .second, .val (.int p3), .val (.int p4), .val (.long m1), .second, .val (.int c1), .val (.long j6), .second, .val (.int j10), .val (.ref b14), .val (.ref b18), .val (.int (1 : Int32)), .val (.int (flex m1 c1 j6 j10)), .unset, .unset] [(.int (flex m1 c1 j6 j10)), (.int (fsign (fcu ((m1 <<< ((16 : Int32) &&& 0x3f).toInt64) ||| (c1.toInt64)) ((j6 <<< ((16 : Int32) &&& 0x3f).toInt64) ||| (j10.toInt64)))))])) _
    refine XS.icmpNo X39.here hx rfl (hb hby at_141) rfl (teq hc141_41).2 ?_
    show Steps p.tables e below (T39.setTop (mkF m 144 #[.val (.long q0), .second, .val (.int p1), .val (.long q2), .second, .val (.int p3), .val (.int p4), .val (.long m1), .second, .val (.int c1), .val (.long j6), .second, .val (.int j10), .val (.ref b14), .val (.ref b18), .val (.int (1 : Int32)), .val (.int (flex m1 c1 j6 j10)), .unset, .unset] [])) _
    refine XS.iconst X39.here hx rfl (hb hby at_144) ?_
    show Steps p.tables e below (T39.setTop (mkF m 145 #[.val (.long q0), .second, .val (.int p1), .val (.long q2), .second, .val (.int p3), .val (.int p4), .val (.long m1), .second, .val (.int c1), .val (.long j6), .second, .val (.int j10), .val (.ref b14), .val (.ref b18), .val (.int (1 : Int32)), .val (.int (flex m1 c1 j6 j10)), .unset, .unset] [(.int (1 : Int32))])) _
    refine XS.goto X39.here hx rfl (pc0 := 145) (pc' := 149) rfl (hb hby at_145) (by decide) (by decide) ?_
    show Steps p.tables e below (T39.setTop (mkF m 149 #[.val (.long q0), .second, .val (.int p1), .val (.long q2), .second, .val (.int p3), .val (.int p4), .val (.long m1), .second, .val (.int c1), .val (.long j6), .second, .val (.int j10), .val (.ref b14), .val (.ref b18), .val (.int (1 : Int32)), .val (.int (flex m1 c1 j6 j10)), .unset, .unset] [(.int (1 : Int32))])) _
    refine XS.istore X39.here hx rfl (hb hby at_149) rfl (l' := #[.val (.long q0), .second, .val (.int p1), .val (.long q2), .second, .val (.int p3), .val (.int p4), .val (.long m1), .second, .val (.int c1), .val (.long j6), .second, .val (.int j10), .val (.ref b14), .val (.ref b18), .val (.int (1 : Int32)), .val (.int (flex m1 c1 j6 j10)), .val (.int (1 : Int32)), .unset]) rfl ?_
    show Steps p.tables e below (T39.setTop (mkF m 151 #[.val (.long q0), .second, .val (.int p1), .val (.long q2), .second, .val (.int p3), .val (.int p4), .val (.long m1), .second, .val (.int c1), .val (.long j6), .second, .val (.int j10), .val (.ref b14), .val (.ref b18), .val (.int (1 : Int32)), .val (.int (flex m1 c1 j6 j10)), .val (.int (1 : Int32)), .unset] [])) _
    refine XS.aload X39.here hx rfl (hb hby at_151) rfl rfl ?_
    show Steps p.tables e below (T39.setTop (mkF m 153 #[.val (.long q0), .second, .val (.int p1), .val (.long q2), .second, .val (.int p3), .val (.int p4), .val (.long m1), .second, .val (.int c1), .val (.long j6), .second, .val (.int j10), .val (.ref b14), .val (.ref b18), .val (.int (1 : Int32)), .val (.int (flex m1 c1 j6 j10)), .val (.int (1 : Int32)), .unset] [(.ref b14)])) _
    refine XS.aload X39.here hx rfl (hb hby at_153) rfl rfl ?_
    show Steps p.tables e below (T39.setTop (mkF m 155 #[.val (.long q0), .second, .val (.int p1), .val (.long q2), .second, .val (.int p3), .val (.int p4), .val (.long m1), .second, .val (.int c1), .val (.long j6), .second, .val (.int j10), .val (.ref b14), .val (.ref b18), .val (.int (1 : Int32)), .val (.int (flex m1 c1 j6 j10)), .val (.int (1 : Int32)), .unset] [(.ref b18), (.ref b14)])) _
    refine st42.trans ?_
    show Steps p.tables e below (T42.setTop (mkF m 158 #[.val (.long q0), .second, .val (.int p1), .val (.long q2), .second, .val (.int p3), .val (.int p4), .val (.long m1), .second, .val (.int c1), .val (.long j6), .second, .val (.int j10), .val (.ref b14), .val (.ref b18), .val (.int (1 : Int32)), .val (.int (flex m1 c1 j6 j10)), .val (.int (1 : Int32)), .unset] [(.int (fequ ((m1 <<< ((16 : Int32) &&& 0x3f).toInt64) ||| (c1.toInt64)) ((j6 <<< ((16 : Int32) &&& 0x3f).toInt64) ||| (j10.toInt64))))])) _
    refine XS.iload X42.here hx rfl (hb hby at_158) rfl ?_
    exact kt
  obtain ⟨j44, hj44⟩ : ∃ z : Int32, z = (if (flex m1 c1 j6 j10) = (0 : Int32) then (1 : Int32) else (0 : Int32)) := ⟨_, rfl⟩
  have G45 : ∀ t, Steps p.tables e below (T42.setTop (mkF m 168 #[.val (.long q0), .second, .val (.int p1), .val (.long q2), .second, .val (.int p3), .val (.int p4), .val (.long m1), .second, .val (.int c1), .val (.long j6), .second, .val (.int j10), .val (.ref b14), .val (.ref b18), .val (.int (1 : Int32)), .val (.int (flex m1 c1 j6 j10)), .val (.int (1 : Int32)), .unset] [(.int j44), (.int (fequ ((m1 <<< ((16 : Int32) &&& 0x3f).toInt64) ||| (c1.toInt64)) ((j6 <<< ((16 : Int32) &&& 0x3f).toInt64) ||| (j10.toInt64))))])) t → Steps p.tables e below (s₁.setTop (entryFrame m #[(.long q0), (.int p1), (.long q2), (.int p3), (.int p4)] maxLocals)) t := by
    intro t kt
    by_cases hc160_46 : (flex m1 c1 j6 j10) = (0 : Int32)
    · skip
      rw [show j44 = (1 : Int32) from by rw [hj44, if_pos hc160_46]] at kt
      refine G43 _ ?_
      show Steps p.tables e below (T42.setTop (mkF m 160 #[.val (.long q0), .second, .val (.int p1), .val (.long q2), .second, .val (.int p3), .val (.int p4), .val (.long m1), .second, .val (.int c1), .val (.long j6), .second, .val (.int j10), .val (.ref b14), .val (.ref b18), .val (.int (1 : Int32)), .val (.int (flex m1 c1 j6 j10)), .val (.int (1 : Int32)), .unset] [(.int (flex m1 c1 j6 j10)), (.int (fequ ((m1 <<< ((16 : Int32) &&& 0x3f).toInt64) ||| (c1.toInt64)) ((j6 <<< ((16 : Int32) &&& 0x3f).toInt64) ||| (j10.toInt64))))])) _
      refine XS.ifNo X42.here hx rfl (hb hby at_160) rfl ((if0 _ _).trans (teq hc160_46).2) ?_
      show Steps p.tables e below (T42.setTop (mkF m 163 #[.val (.long q0), .second, .val (.int p1), .val (.long q2), .second, .val (.int p3), .val (.int p4), .val (.long m1), .second, .val (.int c1), .val (.long j6), .second, .val (.int j10), .val (.ref b14), .val (.ref b18), .val (.int (1 : Int32)), .val (.int (flex m1 c1 j6 j10)), .val (.int (1 : Int32)), .unset] [(.int (fequ ((m1 <<< ((16 : Int32) &&& 0x3f).toInt64) ||| (c1.toInt64)) ((j6 <<< ((16 : Int32) &&& 0x3f).toInt64) ||| (j10.toInt64))))])) _
      refine XS.iconst X42.here hx rfl (hb hby at_163) ?_
      show Steps p.tables e below (T42.setTop (mkF m 164 #[.val (.long q0), .second, .val (.int p1), .val (.long q2), .second, .val (.int p3), .val (.int p4), .val (.long m1), .second, .val (.int c1), .val (.long j6), .second, .val (.int j10), .val (.ref b14), .val (.ref b18), .val (.int (1 : Int32)), .val (.int (flex m1 c1 j6 j10)), .val (.int (1 : Int32)), .unset] [(.int (1 : Int32)), (.int (fequ ((m1 <<< ((16 : Int32) &&& 0x3f).toInt64) ||| (c1.toInt64)) ((j6 <<< ((16 : Int32) &&& 0x3f).toInt64) ||| (j10.toInt64))))])) _
      refine XS.goto X42.here hx rfl (pc0 := 164) (pc' := 168) rfl (hb hby at_164) (by decide) (by decide) ?_
      exact kt
    · skip
      rw [show j44 = (0 : Int32) from by rw [hj44, if_neg hc160_46]] at kt
      refine G43 _ ?_
      show Steps p.tables e below (T42.setTop (mkF m 160 #[.val (.long q0), .second, .val (.int p1), .val (.long q2), .second, .val (.int p3), .val (.int p4), .val (.long m1), .second, .val (.int c1), .val (.long j6), .second, .val (.int j10), .val (.ref b14), .val (.ref b18), .val (.int (1 : Int32)), .val (.int (flex m1 c1 j6 j10)), .val (.int (1 : Int32)), .unset] [(.int (flex m1 c1 j6 j10)), (.int (fequ ((m1 <<< ((16 : Int32) &&& 0x3f).toInt64) ||| (c1.toInt64)) ((j6 <<< ((16 : Int32) &&& 0x3f).toInt64) ||| (j10.toInt64))))])) _
      refine XS.ifYes X42.here hx rfl (pc0 := 160) (pc' := 167) rfl (hb hby at_160) rfl ((if0 _ _).trans (feq hc160_46).2) (by decide) (by decide) ?_
      show Steps p.tables e below (T42.setTop (mkF m 167 #[.val (.long q0), .second, .val (.int p1), .val (.long q2), .second, .val (.int p3), .val (.int p4), .val (.long m1), .second, .val (.int c1), .val (.long j6), .second, .val (.int j10), .val (.ref b14), .val (.ref b18), .val (.int (1 : Int32)), .val (.int (flex m1 c1 j6 j10)), .val (.int (1 : Int32)), .unset] [(.int (fequ ((m1 <<< ((16 : Int32) &&& 0x3f).toInt64) ||| (c1.toInt64)) ((j6 <<< ((16 : Int32) &&& 0x3f).toInt64) ||| (j10.toInt64))))])) _
      refine XS.iconst X42.here hx rfl (hb hby at_167) ?_
      exact kt
  have hc168_47 : (fequ ((m1 <<< ((16 : Int32) &&& 0x3f).toInt64) ||| (c1.toInt64)) ((j6 <<< ((16 : Int32) &&& 0x3f).toInt64) ||| (j10.toInt64))) = j44 := hord.2.trans hj44.symm
  have G48 : ∀ t, Steps p.tables e below (T42.setTop (mkF m 180 #[.val (.long q0), .second, .val (.int p1), .val (.long q2), .second, .val (.int p3), .val (.int p4), .val (.long m1), .second, .val (.int c1), .val (.long j6), .second, .val (.int j10), .val (.ref b14), .val (.ref b18), .val (.int (1 : Int32)), .val (.int (flex m1 c1 j6 j10)), .val (.int (1 : Int32)), .val (.int (1 : Int32))] [(.int (1 : Int32))])) t → Steps p.tables e below (s₁.setTop (entryFrame m #[(.long q0), (.int p1), (.long q2), (.int p3), (.int p4)] maxLocals)) t := by
    intro t kt
    refine G45 _ ?_
    show Steps p.tables e below (T42.setTop (mkF m 168 #[.val (.long q0), .second, .val (.int p1), .val (.long q2), .second, .val (.int p3), .val (.int p4), .val (.long m1), .second, .val (.int c1), .val (.long j6), .second, .val (.int j10), .val (.ref b14), .val (.ref b18), .val (.int (1 : Int32)), .val (.int (flex m1 c1 j6 j10)), .val (.int (1 : Int32)), .unset] [(.int j44), (.int (fequ ((m1 <<< ((16 : Int32) &&& 0x3f).toInt64) ||| (c1.toInt64)) ((j6 <<< ((16 : Int32) &&& 0x3f).toInt64) ||| (j10.toInt64))))])) _
    refine XS.icmpNo X42.here hx rfl (hb hby at_168) rfl (teq hc168_47).2 ?_
    show Steps p.tables e below (T42.setTop (mkF m 171 #[.val (.long q0), .second, .val (.int p1), .val (.long q2), .second, .val (.int p3), .val (.int p4), .val (.long m1), .second, .val (.int c1), .val (.long j6), .second, .val (.int j10), .val (.ref b14), .val (.ref b18), .val (.int (1 : Int32)), .val (.int (flex m1 c1 j6 j10)), .val (.int (1 : Int32)), .unset] [])) _
    refine XS.iconst X42.here hx rfl (hb hby at_171) ?_
    show Steps p.tables e below (T42.setTop (mkF m 172 #[.val (.long q0), .second, .val (.int p1), .val (.long q2), .second, .val (.int p3), .val (.int p4), .val (.long m1), .second, .val (.int c1), .val (.long j6), .second, .val (.int j10), .val (.ref b14), .val (.ref b18), .val (.int (1 : Int32)), .val (.int (flex m1 c1 j6 j10)), .val (.int (1 : Int32)), .unset] [(.int (1 : Int32))])) _
    refine XS.goto X42.here hx rfl (pc0 := 172) (pc' := 176) rfl (hb hby at_172) (by decide) (by decide) ?_
    show Steps p.tables e below (T42.setTop (mkF m 176 #[.val (.long q0), .second, .val (.int p1), .val (.long q2), .second, .val (.int p3), .val (.int p4), .val (.long m1), .second, .val (.int c1), .val (.long j6), .second, .val (.int j10), .val (.ref b14), .val (.ref b18), .val (.int (1 : Int32)), .val (.int (flex m1 c1 j6 j10)), .val (.int (1 : Int32)), .unset] [(.int (1 : Int32))])) _
    refine XS.istore X42.here hx rfl (hb hby at_176) rfl (l' := #[.val (.long q0), .second, .val (.int p1), .val (.long q2), .second, .val (.int p3), .val (.int p4), .val (.long m1), .second, .val (.int c1), .val (.long j6), .second, .val (.int j10), .val (.ref b14), .val (.ref b18), .val (.int (1 : Int32)), .val (.int (flex m1 c1 j6 j10)), .val (.int (1 : Int32)), .val (.int (1 : Int32))]) rfl ?_
    show Steps p.tables e below (T42.setTop (mkF m 178 #[.val (.long q0), .second, .val (.int p1), .val (.long q2), .second, .val (.int p3), .val (.int p4), .val (.long m1), .second, .val (.int c1), .val (.long j6), .second, .val (.int j10), .val (.ref b14), .val (.ref b18), .val (.int (1 : Int32)), .val (.int (flex m1 c1 j6 j10)), .val (.int (1 : Int32)), .val (.int (1 : Int32))] [])) _
    refine XS.iload X42.here hx rfl (hb hby at_178) rfl ?_
    exact kt
  have G49 : ∀ t, Steps p.tables e below (T42.setTop (mkF m 185 #[.val (.long q0), .second, .val (.int p1), .val (.long q2), .second, .val (.int p3), .val (.int p4), .val (.long m1), .second, .val (.int c1), .val (.long j6), .second, .val (.int j10), .val (.ref b14), .val (.ref b18), .val (.int (1 : Int32)), .val (.int (flex m1 c1 j6 j10)), .val (.int (1 : Int32)), .val (.int (1 : Int32))] [(.int (1 : Int32))])) t → Steps p.tables e below (s₁.setTop (entryFrame m #[(.long q0), (.int p1), (.long q2), (.int p3), (.int p4)] maxLocals)) t := by
    intro t kt
    refine G48 _ ?_
    show Steps p.tables e below (T42.setTop (mkF m 180 #[.val (.long q0), .second, .val (.int p1), .val (.long q2), .second, .val (.int p3), .val (.int p4), .val (.long m1), .second, .val (.int c1), .val (.long j6), .second, .val (.int j10), .val (.ref b14), .val (.ref b18), .val (.int (1 : Int32)), .val (.int (flex m1 c1 j6 j10)), .val (.int (1 : Int32)), .val (.int (1 : Int32))] [(.int (1 : Int32))])) _
    refine XS.ifNo X42.here hx rfl (hb hby at_180) rfl ((if0 _ _).trans (feq (by decide)).1) ?_
    show Steps p.tables e below (T42.setTop (mkF m 183 #[.val (.long q0), .second, .val (.int p1), .val (.long q2), .second, .val (.int p3), .val (.int p4), .val (.long m1), .second, .val (.int c1), .val (.long j6), .second, .val (.int j10), .val (.ref b14), .val (.ref b18), .val (.int (1 : Int32)), .val (.int (flex m1 c1 j6 j10)), .val (.int (1 : Int32)), .val (.int (1 : Int32))] [])) _
    refine XS.iload X42.here hx rfl (hb hby at_183) rfl ?_
    exact kt
  have G50 : ∀ t, Steps p.tables e below (T42.setTop (mkF m 190 #[.val (.long q0), .second, .val (.int p1), .val (.long q2), .second, .val (.int p3), .val (.int p4), .val (.long m1), .second, .val (.int c1), .val (.long j6), .second, .val (.int j10), .val (.ref b14), .val (.ref b18), .val (.int (1 : Int32)), .val (.int (flex m1 c1 j6 j10)), .val (.int (1 : Int32)), .val (.int (1 : Int32))] [(.int (1 : Int32))])) t → Steps p.tables e below (s₁.setTop (entryFrame m #[(.long q0), (.int p1), (.long q2), (.int p3), (.int p4)] maxLocals)) t := by
    intro t kt
    refine G49 _ ?_
    show Steps p.tables e below (T42.setTop (mkF m 185 #[.val (.long q0), .second, .val (.int p1), .val (.long q2), .second, .val (.int p3), .val (.int p4), .val (.long m1), .second, .val (.int c1), .val (.long j6), .second, .val (.int j10), .val (.ref b14), .val (.ref b18), .val (.int (1 : Int32)), .val (.int (flex m1 c1 j6 j10)), .val (.int (1 : Int32)), .val (.int (1 : Int32))] [(.int (1 : Int32))])) _
    refine XS.ifNo X42.here hx rfl (hb hby at_185) rfl ((if0 _ _).trans (feq (by decide)).1) ?_
    show Steps p.tables e below (T42.setTop (mkF m 188 #[.val (.long q0), .second, .val (.int p1), .val (.long q2), .second, .val (.int p3), .val (.int p4), .val (.long m1), .second, .val (.int c1), .val (.long j6), .second, .val (.int j10), .val (.ref b14), .val (.ref b18), .val (.int (1 : Int32)), .val (.int (flex m1 c1 j6 j10)), .val (.int (1 : Int32)), .val (.int (1 : Int32))] [])) _
    refine XS.iload X42.here hx rfl (hb hby at_188) rfl ?_
    exact kt
  obtain ⟨fs, hr, hrun, hended, hRW⟩ := X42.leaveW (s := s) hS (by rw [show T42.heap = T18.heap from eh42]; exact hk) (v := some (.int (1 : Int32))) (fun h => by rw [Bd.returns] at h; cases h) (BodyLoose.notSynchronized Bd)
  refine ⟨_, _, G50 _ ?_, hrun, hended, _, _, rfl, ?_, hRW.1, hRW.2.1, hRW.2.2.1, hRW.2.2.2.mono (by decide) (by decide)⟩
  · skip
    show Steps p.tables e below (T42.setTop (mkF m 190 #[.val (.long q0), .second, .val (.int p1), .val (.long q2), .second, .val (.int p3), .val (.int p4), .val (.long m1), .second, .val (.int c1), .val (.long j6), .second, .val (.int j10), .val (.ref b14), .val (.ref b18), .val (.int (1 : Int32)), .val (.int (flex m1 c1 j6 j10)), .val (.int (1 : Int32)), .val (.int (1 : Int32))] [(.int (1 : Int32))])) _
    refine XS.ifNo X42.here hx rfl (hb hby at_190) rfl ((if0 _ _).trans (feq (by decide)).1) ?_
    show Steps p.tables e below (T42.setTop (mkF m 193 #[.val (.long q0), .second, .val (.int p1), .val (.long q2), .second, .val (.int p3), .val (.int p4), .val (.long m1), .second, .val (.int c1), .val (.long j6), .second, .val (.int j10), .val (.ref b14), .val (.ref b18), .val (.int (1 : Int32)), .val (.int (flex m1 c1 j6 j10)), .val (.int (1 : Int32)), .val (.int (1 : Int32))] [])) _
    refine XS.iconst X42.here hx rfl (hb hby at_193) ?_
    show Steps p.tables e below (T42.setTop (mkF m 194 #[.val (.long q0), .second, .val (.int p1), .val (.long q2), .second, .val (.int p3), .val (.int p4), .val (.long m1), .second, .val (.int c1), .val (.long j6), .second, .val (.int j10), .val (.ref b14), .val (.ref b18), .val (.int (1 : Int32)), .val (.int (flex m1 c1 j6 j10)), .val (.int (1 : Int32)), .val (.int (1 : Int32))] [(.int (1 : Int32))])) _
    refine XS.goto X42.here hx rfl (pc0 := 194) (pc' := 198) rfl (hb hby at_194) (by decide) (by decide) ?_
    show Steps p.tables e below (T42.setTop (mkF m 198 #[.val (.long q0), .second, .val (.int p1), .val (.long q2), .second, .val (.int p3), .val (.int p4), .val (.long m1), .second, .val (.int c1), .val (.long j6), .second, .val (.int j10), .val (.ref b14), .val (.ref b18), .val (.int (1 : Int32)), .val (.int (flex m1 c1 j6 j10)), .val (.int (1 : Int32)), .val (.int (1 : Int32))] [(.int (1 : Int32))])) _
    exact retN X42 hx (t := .boolean) Bd.returns (by simp) (hb hby at_198) hr
  · show Q0 Z q0 p1 q2 p3 p4 h0 n0 _ T42.heap _
    rw [eh42]
    exact ⟨rfl, N42⟩
set_option maxRecDepth 65536 in
set_option maxHeartbeats 40000000 in
theorem comes_1 {Post : Tables → Env → Array Value → State → Outcome → State → Prop} (hpost : ∀ tb e args s v u, (limb_1_1.after args s (.returned v) u = true ∧ limb_1_2.after args s (.returned v) u = true ∧ True) → ReturnedEndW s (.returned v) u (Jvm.fieldLocs frame_1_writes args s ++ Jvm.arrayLocs frame_1_arrays args s ++ Jvm.staticLocs frame_1_statics s) 16 2176 → Post tb e args s (.returned v) u) :
    ArmFor flags0 classFile x code maxLocals ret World_1 tables_1 room_1 Calls_1 rest_1 Pre_1 Post := by
  intro l hfl _ _ p e ha hc hk s m args below hf hA hF happ hP
  obtain ⟨hcalls, hrest, hpre⟩ := hP
  obtain ⟨-, -, -, hnamed, -, -, -, hat⟩ := (Spec.applies_iff hf).mp happ
  obtain ⟨hg, hn⟩ := and_e (Cond.before_iff.mp (show (Jvm.Cond.and given_1 narrow_1).before args s = true from hpre))
  obtain ⟨g1, g2⟩ := and_e hg
  obtain ⟨g3, g4⟩ := and_e g2
  obtain ⟨g5, g6⟩ := and_e g4
  obtain ⟨g7, g8⟩ := and_e g6
  obtain ⟨g9, g10⟩ := and_e g8
  obtain ⟨w0, w1, w2, w3, w4, rfl⟩ : ∃ w0 w1 w2 w3 w4 : Value, args = #[w0, w1, w2, w3, w4] := by
    have hs : args.size = 5 := by simpa [Cond.value, given_1] using g1
    obtain ⟨L⟩ := args
    match L, hs with
    | [w0, w1, w2, w3, w4], _ => exact ⟨w0, w1, w2, w3, w4, rfl⟩
  have hw := fun d (hd : d ∈ tables_1) => atoms_spec (ws := Jvm.Cond.code x code maxLocals ret :: tables_1) hat d (List.mem_cons_of_mem _ hd)
  have hfit : Fit s := fun {y c} hc i hi => by
    obtain ⟨ha, rfl⟩ := Array.getElem?_eq_some_iff.mp hc
    have q := List.all_eq_true.mp ((Array.all_eq_true_iff_forall_mem.mp hF) _ (Array.getElem_mem ha)) i (List.mem_range.mpr hi)
    simpa [Array.getElem?_eq_getElem hi] using q
  obtain ⟨i0, ei0⟩ := isL_v g3
  obtain rfl : w0 = (.long i0) := Option.some.inj ei0
  obtain ⟨i1, ei1⟩ := is_v g5
  obtain rfl : w1 = (.int i1) := Option.some.inj ei1
  obtain ⟨i2, ei2⟩ := isL_v g7
  obtain rfl : w2 = (.long i2) := Option.some.inj ei2
  obtain ⟨i3, ei3⟩ := is_v g9
  obtain rfl : w3 = (.int i3) := Option.some.inj ei3
  obtain ⟨i4, ei4⟩ := is_v g10
  obtain rfl : w4 = (.int i4) := Option.some.inj ei4
  obtain ⟨n, o, h1, h2, h3, _, L, rfl, ⟨rfl, N⟩, hq⟩ := rm0 l s _ hw tables_1 i0 i1 i2 i3 i4  s.heap s.heap.size (Nat.le_refl _)  p e ha hc hk s m _ below hf ((Spec.applies_iff_loose hf).mp happ).1 ⟨rfl, State.Warmed39.refl s, rfl⟩ trivial
  refine ⟨n, _, h1, h2, h3, hpost _ _ _ _ _ _ ⟨Cond.after_iff.mpr rfl, Cond.after_iff.mpr (eq_i res_at (Term.int_eval (1)) rfl), trivial⟩ ⟨hq.1, hq.2.1, hq.2.2.1, (hq.2.2.2.sift fun y hy => Or.inr (N y hy)).mono (by decide) (by decide)⟩⟩
theorem main_1_1 : Claimed_1_1 := comes_1 fun _ _ _ _ _ _ h hF => ⟨h.1, hF⟩
theorem main_1_2 : Claimed_1_2 := comes_1 fun _ _ _ _ _ _ h hF => ⟨h.2.1, hF⟩
end Jvm.Pilot.@@N@@
namespace Jvm.Pilot.@@N@@
open Jvm Jvm.ClassFile Sem Op Lib Jvm.Free Jvm.Stand Jvm.Pilot.@@N@@.Jvm.D
/-! MADE BY PROGRAM (witnessworld.py) out of the Statement's table words and the real class files: 16 classes; the members and pool entries that the words name. The judged class is class 1, her method 1. -/
namespace start1
open Jvm.ClassFile
def u (s : String) : CpInfo := .utf8 (stringToUtf16 s)
/-- a pool by its gaps: so many unusable entries, then the entry; so many at the end -/
def gap : Nat → List CpInfo → List CpInfo
  | 0, r => r
  | n + 1, r => .unusable :: gap n r
def poolList (es : List (Nat × CpInfo)) (last : Nat) : List CpInfo := es.foldr (fun e r => gap e.1 (e.2 :: r)) (gap last [])
def pool (es : List (Nat × CpInfo)) (last : Nat) : Array CpInfo := ⟨poolList es last⟩
def fileOf (pool : Array CpInfo) (this : Nat) (attrs : Array Attribute := #[]) (ms : Array MethodInfo := #[]) (fl : Nat := 33) (sup : Nat := 0) (ifs : Array Nat := #[]) (fds : Array FieldInfo := #[]) : ClassFile where
  minorVersion := 0
  majorVersion := 65
  constantPool := pool
  accessFlags := fl
  thisClass := this
  superClass := sup
  interfaces := ifs
  fields := fds
  methods := ms
  attributes := attrs
def plain (name : String) (sup : Option ClassId) : Class where
  name := name
  kind := .ordinary
  loader := none
  accessFlags := 33
  super := sup
  interfaces := #[]
  cf := none
  fields := #[]
  methods := #[]
  instanceTypes := #[]
  staticTypes := #[]
  resolved := #[]
  callSites := []
  init := .initialized
  statics := none
  mirror := none

def pool0 : Array CpInfo := pool [(5, u "<init>"), (0, u "()V"), (1, .class_ 10), (1, u "java/lang/Object")] 113

def k0c0 : Code := { maxStack := 0, maxLocals := 1, code := object_method_1_code, exceptionTable := #[], attributes := #[] }
def k0m0 : Method := { name := "<init>", desc := "()V", sig := { parameters := [], returnType := none }, accessFlags := 1, code := some k0c0 }
/-- java/lang/Object -/
def k0 : Class := { plain "java/lang/Object" none with
  accessFlags := 33
  interfaces := #[]
  cf := some (fileOf pool0 8 #[] #[{ accessFlags := 1, nameIndex := 5, descriptorIndex := 6, attributes := #[] }] 33 0 #[] #[])
  fields := #[]
  methods := #[k0m0]
  instanceTypes := #[]
  staticTypes := #[]
  resolved := Array.replicate 124 none
  statics := none }

def pool1 : Array CpInfo := pool [(2, .class_ 4), (1, u "java/lang/Object"), (0, u "<init>"), (0, u "()V"), (0, .long 281474976710655), (1, .integer 65535), (0, .methodref 11 12), (0, .class_ 13), (0, .nameAndType 14 15), (0, u "com/example/fides/fides/HybridTimestamp"), (0, u "of"), (0, u "(JI)Lcom/example/fides/fides/HybridTimestamp;"), (0, .methodref 11 17), (0, .nameAndType 18 19), (0, u "millis"), (0, u "()J"), (0, .methodref 11 21), (0, .nameAndType 22 23), (0, u "counter"), (0, u "()I"), (0, .methodref 25 26), (0, .class_ 27), (0, .nameAndType 28 29), (0, u "com/example/fides/fides/HybridTimestampOfPinLaw"), (0, u "lexCompare"), (0, u "(JIJI)I"), (0, .methodref 11 31), (0, .nameAndType 32 33), (0, u "compareTo"), (0, u "(Lcom/example/fides/fides/HybridTimestamp;)I"), (0, .methodref 25 35), (0, .nameAndType 36 37), (0, u "sign"), (0, u "(I)I"), (0, .methodref 11 39), (0, .nameAndType 40 41), (0, u "equals"), (0, u "(Ljava/lang/Object;)Z"), (2, u "law"), (0, u "(JIJII)Z")] 3

def k1m0 : Method := { name := "<init>", desc := "()V", sig := { parameters := [], returnType := none }, accessFlags := 1, code := none }
def k1c1 : Code := { maxStack := 6, maxLocals := 19, code := code, exceptionTable := #[], attributes := #[] }
def k1m1 : Method := { name := "law", desc := "(JIJII)Z", sig := { parameters := [.long, .int, .long, .int, .int], returnType := some .boolean }, accessFlags := 9, code := some k1c1 }
def k1c2 : Code := { maxStack := 4, maxLocals := 6, code := method_3_code, exceptionTable := #[], attributes := #[] }
def k1m2 : Method := { name := "lexCompare", desc := "(JIJI)I", sig := { parameters := [.long, .int, .long, .int], returnType := some .int }, accessFlags := 10, code := some k1c2 }
def k1c3 : Code := { maxStack := 1, maxLocals := 1, code := method_4_code, exceptionTable := #[], attributes := #[] }
def k1m3 : Method := { name := "sign", desc := "(I)I", sig := { parameters := [.int], returnType := some .int }, accessFlags := 10, code := some k1c3 }
/-- com/example/fides/fides/HybridTimestampOfPinLaw -/
def k1 : Class := { plain "com/example/fides/fides/HybridTimestampOfPinLaw" (some 0) with
  accessFlags := 49
  interfaces := #[]
  cf := some (fileOf pool1 25 #[] #[{ accessFlags := 1, nameIndex := 5, descriptorIndex := 6, attributes := #[] }, { accessFlags := 9, nameIndex := 44, descriptorIndex := 45, attributes := #[] }, { accessFlags := 10, nameIndex := 28, descriptorIndex := 29, attributes := #[] }, { accessFlags := 10, nameIndex := 36, descriptorIndex := 37, attributes := #[] }] 49 2 #[] #[])
  fields := #[]
  methods := #[k1m0, k1m1, k1m2, k1m3]
  instanceTypes := #[]
  staticTypes := #[]
  resolved := Array.replicate 49 none
  statics := none }

def pool2 : Array CpInfo := pool [(1, .class_ 2), (0, u "java/lang/Comparable"), (0, .class_ 4), (0, u "java/lang/Object")] 7

/-- java/lang/Comparable -/
def k2 : Class := { plain "java/lang/Comparable" (some 0) with
  accessFlags := 1537
  interfaces := #[]
  cf := some (fileOf pool2 1 #[] #[] 1537 3 #[] #[])
  fields := #[]
  methods := #[]
  instanceTypes := #[]
  staticTypes := #[]
  resolved := Array.replicate 12 none
  statics := none }

def pool3 : Array CpInfo := pool [(1, .class_ 2), (0, u "com/example/fides/fides/HybridTimestamp"), (0, .methodref 4 5), (0, .class_ 6), (0, .nameAndType 7 8), (0, u "java/lang/Object"), (0, u "<init>"), (0, u "()V"), (0, .fieldref 1 10), (0, .nameAndType 11 12), (0, u "bits"), (0, u "J"), (0, .string 14), (0, u "millis"), (0, .long 281474976710655), (1, .methodref 1 18), (0, .nameAndType 19 20), (0, u "requireInRange"), (0, u "(Ljava/lang/String;JJ)V"), (0, .string 22), (0, u "counter"), (0, .long 65535), (1, .methodref 1 26), (0, .nameAndType 7 27), (0, u "(J)V"), (24, u "()I"), (12, u "MAX_VALUE_BEFORE_LAST_DIGIT"), (0, .methodref 67 68), (0, .class_ 69), (0, .nameAndType 70 71), (0, u "java/lang/Long"), (0, u "compareUnsigned"), (0, u "(JJ)I"), (2, u "MAX_LAST_DIGIT"), (0, u "I"), (21, u "()J"), (25, u "compareTo"), (0, u "(Lcom/example/fides/fides/HybridTimestamp;)I"), (11, .class_ 137), (0, u "java/lang/Comparable"), (0, u "COUNTER_BITS"), (2, u "MAX_MILLIS"), (0, u "MAX_COUNTER"), (3, u "of"), (0, u "(JI)Lcom/example/fides/fides/HybridTimestamp;"), (10, u "equals"), (0, u "(Ljava/lang/Object;)Z")] 32

def k3c0 : Code := { maxStack := 3, maxLocals := 3, code := prog_8_method_1_code, exceptionTable := #[], attributes := #[] }
def k3m0 : Method := { name := "<init>", desc := "(J)V", sig := { parameters := [.long], returnType := none }, accessFlags := 2, code := some k3c0 }
def k3c1 : Code := { maxStack := 6, maxLocals := 3, code := prog_8_method_2_code, exceptionTable := #[], attributes := #[] }
def k3m1 : Method := { name := "of", desc := "(JI)Lcom/example/fides/fides/HybridTimestamp;", sig := { parameters := [.long, .int], returnType := some (.object "com/example/fides/fides/HybridTimestamp") }, accessFlags := 9, code := some k3c1 }
def k3c2 : Code := { maxStack := 7, maxLocals := 5, code := prog_8_method_5_code, exceptionTable := #[], attributes := #[] }
def k3m2 : Method := { name := "requireInRange", desc := "(Ljava/lang/String;JJ)V", sig := { parameters := [(.object "java/lang/String"), .long, .long], returnType := none }, accessFlags := 10, code := some k3c2 }
def k3c3 : Code := { maxStack := 3, maxLocals := 1, code := prog_8_method_6_code, exceptionTable := #[], attributes := #[] }
def k3m3 : Method := { name := "millis", desc := "()J", sig := { parameters := [], returnType := some .long }, accessFlags := 1, code := some k3c3 }
def k3c4 : Code := { maxStack := 4, maxLocals := 1, code := prog_8_method_7_code, exceptionTable := #[], attributes := #[] }
def k3m4 : Method := { name := "counter", desc := "()I", sig := { parameters := [], returnType := some .int }, accessFlags := 1, code := some k3c4 }
def k3c5 : Code := { maxStack := 4, maxLocals := 2, code := prog_8_method_11_code, exceptionTable := #[], attributes := #[] }
def k3m5 : Method := { name := "compareTo", desc := "(Lcom/example/fides/fides/HybridTimestamp;)I", sig := { parameters := [(.object "com/example/fides/fides/HybridTimestamp")], returnType := some .int }, accessFlags := 1, code := some k3c5 }
def k3c6 : Code := { maxStack := 4, maxLocals := 3, code := prog_8_method_12_code, exceptionTable := #[], attributes := #[] }
def k3m6 : Method := { name := "equals", desc := "(Ljava/lang/Object;)Z", sig := { parameters := [(.object "java/lang/Object")], returnType := some .boolean }, accessFlags := 1, code := some k3c6 }
/-- com/example/fides/fides/HybridTimestamp -/
def k3 : Class := { plain "com/example/fides/fides/HybridTimestamp" (some 0) with
  accessFlags := 49
  interfaces := #[2]
  cf := some (fileOf pool3 1 #[] #[{ accessFlags := 2, nameIndex := 7, descriptorIndex := 27, attributes := #[] }, { accessFlags := 9, nameIndex := 146, descriptorIndex := 147, attributes := #[] }, { accessFlags := 10, nameIndex := 19, descriptorIndex := 20, attributes := #[] }, { accessFlags := 1, nameIndex := 14, descriptorIndex := 97, attributes := #[] }, { accessFlags := 1, nameIndex := 22, descriptorIndex := 52, attributes := #[] }, { accessFlags := 1, nameIndex := 123, descriptorIndex := 124, attributes := #[] }, { accessFlags := 1, nameIndex := 158, descriptorIndex := 159, attributes := #[] }] 49 4 #[136] #[{ accessFlags := 26, nameIndex := 138, descriptorIndex := 75, attributes := #[] }, { accessFlags := 25, nameIndex := 141, descriptorIndex := 12, attributes := #[] }, { accessFlags := 25, nameIndex := 142, descriptorIndex := 75, attributes := #[] }, { accessFlags := 26, nameIndex := 65, descriptorIndex := 12, attributes := #[] }, { accessFlags := 26, nameIndex := 74, descriptorIndex := 75, attributes := #[] }, { accessFlags := 18, nameIndex := 11, descriptorIndex := 12, attributes := #[] }])
  fields := #[{ name := "COUNTER_BITS", type := .int, accessFlags := 26, slot := 0, constantValue := 0 }, { name := "MAX_MILLIS", type := .long, accessFlags := 25, slot := 1, constantValue := 0 }, { name := "MAX_COUNTER", type := .int, accessFlags := 25, slot := 2, constantValue := 0 }, { name := "MAX_VALUE_BEFORE_LAST_DIGIT", type := .long, accessFlags := 26, slot := 3, constantValue := 0 }, { name := "MAX_LAST_DIGIT", type := .int, accessFlags := 26, slot := 4, constantValue := 0 }, { name := "bits", type := .long, accessFlags := 18, slot := 0, constantValue := 0 }]
  methods := #[k3m0, k3m1, k3m2, k3m3, k3m4, k3m5, k3m6]
  instanceTypes := #[.long]
  staticTypes := #[.int, .long, .int, .long, .int]
  resolved := Array.replicate 192 none
  statics := none }

def pool4 : Array CpInfo := pool [(1, .class_ 2), (0, u "java/io/Serializable"), (0, .class_ 4), (0, u "java/lang/Object")] 2

/-- java/io/Serializable -/
def k4 : Class := { plain "java/io/Serializable" (some 0) with
  accessFlags := 1537
  interfaces := #[]
  cf := some (fileOf pool4 1 #[] #[] 1537 3 #[] #[])
  fields := #[]
  methods := #[]
  instanceTypes := #[]
  staticTypes := #[]
  resolved := Array.replicate 7 none
  statics := none }

def pool5 : Array CpInfo := pool [(2, .class_ 4), (1, u "java/lang/CharSequence"), (42, .class_ 48), (0, u "java/lang/CharSequence$1CodePointIterator"), (10, .class_ 60), (0, u "java/lang/CharSequence$1CharIterator"), (5, .class_ 67), (0, u "java/lang/Object")] 63

/-- java/lang/CharSequence -/
def k5 : Class := { plain "java/lang/CharSequence" (some 0) with
  accessFlags := 1537
  interfaces := #[]
  cf := some (fileOf pool5 2 #[.nestMembers #[47, 59]] #[] 1537 66 #[] #[])
  fields := #[]
  methods := #[]
  instanceTypes := #[]
  staticTypes := #[]
  resolved := Array.replicate 131 none
  statics := none }

def pool6 : Array CpInfo := pool [(1, .class_ 2), (0, u "java/lang/constant/Constable"), (0, .class_ 4), (0, u "java/lang/Object")] 6

/-- java/lang/constant/Constable -/
def k6 : Class := { plain "java/lang/constant/Constable" (some 0) with
  accessFlags := 1537
  interfaces := #[]
  cf := some (fileOf pool6 1 #[] #[] 1537 3 #[] #[])
  fields := #[]
  methods := #[]
  instanceTypes := #[]
  staticTypes := #[]
  resolved := Array.replicate 11 none
  statics := none }

def pool7 : Array CpInfo := pool [(1, .class_ 2), (0, u "java/lang/constant/ConstantDesc"), (0, .class_ 4), (0, u "java/lang/Object")] 32

/-- java/lang/constant/ConstantDesc -/
def k7 : Class := { plain "java/lang/constant/ConstantDesc" (some 0) with
  accessFlags := 1537
  interfaces := #[]
  cf := some (fileOf pool7 1 #[] #[] 1537 3 #[] #[])
  fields := #[]
  methods := #[]
  instanceTypes := #[]
  staticTypes := #[]
  resolved := Array.replicate 37 none
  statics := none }

def pool8 : Array CpInfo := pool [(2, .class_ 4), (1, u "java/lang/Object"), (0, u "<init>"), (0, u "()V"), (3, .class_ 12), (1, u "java/lang/String"), (0, u "value"), (0, u "[B"), (2, u "coder"), (0, u "B"), (2, u "hash"), (0, u "I"), (2, u "hashIsZero"), (0, u "Z"), (13, u "COMPACT_STRINGS"), (534, .class_ 576), (0, u "java/lang/CharSequence"), (22, u "CASE_INSENSITIVE_ORDER"), (0, u "Ljava/util/Comparator;"), (500, u "serialPersistentFields"), (0, u "[Ljava/io/ObjectStreamField;"), (0, .class_ 1104), (0, u "java/lang/String$CaseInsensitiveComparator"), (1, .class_ 1107), (0, u "java/io/Serializable"), (0, .class_ 1109), (0, u "java/lang/Comparable"), (0, .class_ 1111), (0, u "java/lang/constant/Constable"), (0, .class_ 1113), (0, u "java/lang/constant/ConstantDesc"), (2, u "serialVersionUID"), (0, u "J"), (3, u "REPL"), (0, u "C"), (2, u "LATIN1"), (1, u "UTF16")] 323

def k8m0 : Method := { name := "<init>", desc := "()V", sig := { parameters := [], returnType := none }, accessFlags := 1, code := none }
/-- java/lang/String -/
def k8 : Class := { plain "java/lang/String" (some 0) with
  accessFlags := 49
  interfaces := #[4, 2, 5, 6, 7]
  cf := some (fileOf pool8 10 #[.nestMembers #[1103]] #[{ accessFlags := 1, nameIndex := 5, descriptorIndex := 6, attributes := #[] }] 49 2 #[1106, 1108, 575, 1110, 1112] #[{ accessFlags := 18, nameIndex := 13, descriptorIndex := 14, attributes := #[] }, { accessFlags := 18, nameIndex := 17, descriptorIndex := 18, attributes := #[] }, { accessFlags := 2, nameIndex := 21, descriptorIndex := 22, attributes := #[] }, { accessFlags := 2, nameIndex := 25, descriptorIndex := 26, attributes := #[] }, { accessFlags := 26, nameIndex := 1116, descriptorIndex := 1117, attributes := #[] }, { accessFlags := 24, nameIndex := 40, descriptorIndex := 26, attributes := #[] }, { accessFlags := 26, nameIndex := 1101, descriptorIndex := 1102, attributes := #[] }, { accessFlags := 26, nameIndex := 1121, descriptorIndex := 1122, attributes := #[] }, { accessFlags := 25, nameIndex := 599, descriptorIndex := 600, attributes := #[] }, { accessFlags := 24, nameIndex := 1125, descriptorIndex := 18, attributes := #[] }, { accessFlags := 24, nameIndex := 1127, descriptorIndex := 18, attributes := #[] }])
  fields := #[{ name := "value", type := (.array .byte), accessFlags := 18, slot := 0, constantValue := 0 }, { name := "coder", type := .byte, accessFlags := 18, slot := 1, constantValue := 0 }, { name := "hash", type := .int, accessFlags := 2, slot := 2, constantValue := 0 }, { name := "hashIsZero", type := .boolean, accessFlags := 2, slot := 3, constantValue := 0 }, { name := "serialVersionUID", type := .long, accessFlags := 26, slot := 0, constantValue := 0 }, { name := "COMPACT_STRINGS", type := .boolean, accessFlags := 24, slot := 1, constantValue := 0 }, { name := "serialPersistentFields", type := (.array (.object "java/io/ObjectStreamField")), accessFlags := 26, slot := 2, constantValue := 0 }, { name := "REPL", type := .char, accessFlags := 26, slot := 3, constantValue := 0 }, { name := "CASE_INSENSITIVE_ORDER", type := (.object "java/util/Comparator"), accessFlags := 25, slot := 4, constantValue := 0 }, { name := "LATIN1", type := .byte, accessFlags := 24, slot := 5, constantValue := 0 }, { name := "UTF16", type := .byte, accessFlags := 24, slot := 6, constantValue := 0 }]
  methods := #[k8m0]
  instanceTypes := #[(.array .byte), .byte, .int, .boolean]
  staticTypes := #[.long, .boolean, (.array (.object "java/io/ObjectStreamField")), .char, (.object "java/util/Comparator"), .byte, .byte]
  resolved := Array.replicate 1451 none
  statics := none }

def pool9 : Array CpInfo := pool [(2, .class_ 4), (1, u "java/lang/Object"), (0, u "<init>"), (0, u "()V"), (1, .class_ 10), (1, u "java/lang/Number"), (2, .class_ 14), (0, u "java/io/Serializable"), (0, u "serialVersionUID"), (0, u "J")] 20

def k9m0 : Method := { name := "<init>", desc := "()V", sig := { parameters := [], returnType := none }, accessFlags := 1, code := none }
/-- java/lang/Number -/
def k9 : Class := { plain "java/lang/Number" (some 0) with
  accessFlags := 1057
  interfaces := #[4]
  cf := some (fileOf pool9 8 #[] #[{ accessFlags := 1, nameIndex := 5, descriptorIndex := 6, attributes := #[] }] 1057 2 #[13] #[{ accessFlags := 26, nameIndex := 15, descriptorIndex := 16, attributes := #[] }])
  fields := #[{ name := "serialVersionUID", type := .long, accessFlags := 26, slot := 0, constantValue := 0 }]
  methods := #[k9m0]
  instanceTypes := #[]
  staticTypes := #[.long]
  resolved := Array.replicate 37 none
  statics := none }

def pool10 : Array CpInfo := pool [(1, .class_ 2), (0, u "java/lang/Long"), (165, .long 9223372036854775808), (66, .class_ 237), (1, u "java/lang/Long$LongCache"), (33, .class_ 272), (0, u "java/lang/Number"), (2, u "value"), (0, u "J"), (25, .methodref 1 303), (0, .nameAndType 304 305), (0, u "compare"), (0, u "(JJ)I"), (55, u "TYPE"), (0, u "Ljava/lang/Class;"), (0, .class_ 364), (0, u "java/lang/Comparable"), (0, .class_ 366), (0, u "java/lang/constant/Constable"), (0, .class_ 368), (0, u "java/lang/constant/ConstantDesc"), (0, u "MIN_VALUE"), (1, u "MAX_VALUE"), (4, u "SIZE"), (0, u "I"), (1, u "BYTES"), (1, u "serialVersionUID"), (87, u "compareUnsigned")] 54

def k10c0 : Code := { maxStack := 4, maxLocals := 4, code := jdk_35_method_42_code, exceptionTable := #[], attributes := #[] }
def k10m0 : Method := { name := "compare", desc := "(JJ)I", sig := { parameters := [.long, .long], returnType := some .int }, accessFlags := 9, code := some k10c0 }
def k10c1 : Code := { maxStack := 6, maxLocals := 4, code := jdk_35_method_43_code, exceptionTable := #[], attributes := #[] }
def k10m1 : Method := { name := "compareUnsigned", desc := "(JJ)I", sig := { parameters := [.long, .long], returnType := some .int }, accessFlags := 9, code := some k10c1 }
/-- java/lang/Long -/
def k10 : Class := { plain "java/lang/Long" (some 9) with
  accessFlags := 49
  interfaces := #[2, 6, 7]
  cf := some (fileOf pool10 1 #[.nestMembers #[235]] #[{ accessFlags := 9, nameIndex := 304, descriptorIndex := 305, attributes := #[] }, { accessFlags := 9, nameIndex := 469, descriptorIndex := 305, attributes := #[] }] 49 271 #[363, 365, 367] #[{ accessFlags := 25, nameIndex := 369, descriptorIndex := 276, attributes := #[] }, { accessFlags := 25, nameIndex := 371, descriptorIndex := 276, attributes := #[] }, { accessFlags := 25, nameIndex := 361, descriptorIndex := 362, attributes := #[] }, { accessFlags := 18, nameIndex := 275, descriptorIndex := 276, attributes := #[] }, { accessFlags := 25, nameIndex := 376, descriptorIndex := 377, attributes := #[] }, { accessFlags := 25, nameIndex := 379, descriptorIndex := 377, attributes := #[] }, { accessFlags := 26, nameIndex := 381, descriptorIndex := 276, attributes := #[] }])
  fields := #[{ name := "MIN_VALUE", type := .long, accessFlags := 25, slot := 0, constantValue := 0 }, { name := "MAX_VALUE", type := .long, accessFlags := 25, slot := 1, constantValue := 0 }, { name := "TYPE", type := (.object "java/lang/Class"), accessFlags := 25, slot := 2, constantValue := 0 }, { name := "value", type := .long, accessFlags := 18, slot := 0, constantValue := 0 }, { name := "SIZE", type := .int, accessFlags := 25, slot := 3, constantValue := 0 }, { name := "BYTES", type := .int, accessFlags := 25, slot := 4, constantValue := 0 }, { name := "serialVersionUID", type := .long, accessFlags := 26, slot := 5, constantValue := 0 }]
  methods := #[k10m0, k10m1]
  instanceTypes := #[.long]
  staticTypes := #[.long, .long, (.object "java/lang/Class"), .int, .int, .long]
  resolved := Array.replicate 524 none
  statics := none }

def pool11 : Array CpInfo := pool [(1, u "java/lang/Cloneable"), (0, .class_ 1), (0, u "java/lang/Object"), (0, .class_ 3)] 3

/-- java/lang/Cloneable -/
def k11 : Class := { plain "java/lang/Cloneable" (some 0) with
  accessFlags := 1537
  interfaces := #[]
  cf := some (fileOf pool11 2 #[] #[] 1537 4 #[] #[])
  fields := #[]
  methods := #[]
  instanceTypes := #[]
  staticTypes := #[]
  resolved := Array.replicate 8 none
  statics := none }

/-- the primitive byte -/
def k12 : Class := { plain "byte" none with kind := .primitive 'B', accessFlags := 0x411 }
/-- [B -/
def k13 : Class := { plain "[B" (some 0) with kind := .array 12 .byte, interfaces := #[11, 4], accessFlags := 1041 }

/-- the primitive int -/
def k14 : Class := { plain "int" none with kind := .primitive 'I', accessFlags := 0x411 }
/-- [I -/
def k15 : Class := { plain "[I" (some 0) with kind := .array 14 .int, interfaces := #[11, 4], accessFlags := 1041 }

def heap : Heap := #[]
def classes : Array Class := #[k0, k1, k2, k3, k4, k5, k6, k7, k8, k9, k10, k11, k12, k13, k14, k15]
def interned : List (Array UInt16 × Addr) := []
def slotsUsed : Nat := 0
def theMethod : MethodId := ⟨1, 1⟩
def args0 : Array Value := #[.long 1, .int 2, .long 3, .int 4, .int 0]
def aboutOver (below : List Frame) : State where
  vm := { classes := classes, interned := interned.toArray }
  heap := heap
  slotsUsed := slotsUsed
  threads := #[{ frames := .invoking theMethod args0 :: below }]
def below0 : List Frame := [.native { method := ⟨0, 0⟩, args := #[] }]
def about1 : State := aboutOver below0
def p0 : Program := .bare "" "" ""
def e0 : Env := launch0.env 0 0 0
theorem w_frames : about1.frames = Frame.invoking theMethod args0 :: below0 := rfl
set_option maxRecDepth 65536 in
theorem w_args : argsFit about1.vm theMethod args0 = true := by decide +kernel
set_option maxRecDepth 65536 in
theorem w_heap : heapFits about1 = true := by decide +kernel
set_option maxRecDepth 65536 in
theorem w_runnable : about1.curStatus? = some .runnable := by decide +kernel
set_option maxRecDepth 65536 in
theorem w_alone : about1.alone = true := by decide +kernel
set_option maxRecDepth 65536 in
theorem w_named : about1.methodNamed? x = some theMethod := by decide +kernel
set_option maxRecDepth 65536 in
theorem w_hears : about1.hears theMethod below0 = true := by decide +kernel
set_option maxRecDepth 65536 in
theorem w_ripe : about1.ripe theMethod args0 below0 = true := by decide +kernel
theorem w_running : about1.status = .running := rfl
set_option maxRecDepth 65536 in
theorem w_room : about1.hasRoom e0.platform room_1 = true :=
  launch0.hasRoom_least _ room_1 (by decide +kernel) (by decide +kernel) (by decide +kernel) (by decide +kernel) (by decide +kernel) (by decide +kernel)
theorem allAtoms_all (ts : List Jvm.Cond) (a : Array Jvm.Value) (st : Jvm.State) : (allAtoms ts).before a st = ts.all (fun c => c.before a st) := by
  induction ts with
  | nil => rfl
  | cons c t ih =>
    show (Jvm.Cond.and c (allAtoms t)).before a st = _
    rw [Jvm.Cond.before_and, ih, List.all_cons]
def words1 : List Jvm.Cond := Jvm.Cond.code x code maxLocals ret :: tables_1
/-- a 'code' word, met by the world's own term for the bytes: nothing is compared byte by byte -/
theorem code_word {y : MethodName} {bytes : ByteArray} {mx : Nat} {rt : Option FieldType} {a : Array Value} {s : State} {m : MethodId} {meth : Method} {c : Code} (h1 : s.methodNamed? y = some m) (h2 : s.vm.method? m = some meth) (h3 : meth.code = some c) (h4 : c.code = bytes)
    (h5 : (c.maxLocals == mx && c.exceptionTable.isEmpty && decide (c.maxStack ≤ mostOperands) && decide (meth.sig.returnType = rt) && !meth.locks && decide (parseMethodDescriptor y.desc = some meth.sig)) = true) : (Jvm.Cond.code y bytes mx rt).before a s = true := by
  simp only [Bool.and_eq_true, beq_iff_eq, Bool.not_eq_true', decide_eq_true_eq] at h5
  obtain ⟨⟨⟨⟨⟨g1, g2⟩, g3⟩, g4⟩, g5⟩, g6⟩ := h5
  simp [Cond.before, Cond.holds, Cond.value, h1, h2, h3, h4, g1, g2, g3, g4, g5, g6]
def isCode : Jvm.Cond → Bool
  | .code _ _ _ _ => true
  | _ => false
theorem all_split {L : List Jvm.Cond} {P : Jvm.Cond → Bool} (h1 : L.all (fun c => isCode c || P c) = true) (h2 : ∀ c ∈ L.filter isCode, P c = true) : L.all P = true := by
  refine List.all_eq_true.mpr fun c hc => ?_
  have h := List.all_eq_true.mp h1 c hc
  rcases Bool.eq_false_or_eq_true (isCode c) with hi | hi
  · exact h2 c (List.mem_filter.mpr ⟨hc, hi⟩)
  · simpa [hi] using h
set_option maxRecDepth 65536 in
theorem w_c0 : (Jvm.Cond.code x code maxLocals ret).before args0 about1 = true := code_word (m := ⟨1, 1⟩) (meth := k1m1) (c := k1c1) (by decide +kernel) rfl rfl rfl (by decide +kernel)
set_option maxRecDepth 65536 in
theorem w_c1 : (Jvm.Cond.code ({ cls := "com/example/fides/fides/HybridTimestamp", name := "of", desc := "(JI)Lcom/example/fides/fides/HybridTimestamp;" } : Jvm.MethodName) prog_8_method_2_code (3 : Nat) (Option.some (Jvm.ClassFile.FieldType.object "com/example/fides/fides/HybridTimestamp"))).before args0 about1 = true := code_word (m := ⟨3, 1⟩) (meth := k3m1) (c := k3c1) (by decide +kernel) rfl rfl rfl (by decide +kernel)
set_option maxRecDepth 65536 in
theorem w_c2 : (Jvm.Cond.code ({ cls := "com/example/fides/fides/HybridTimestamp", name := "requireInRange", desc := "(Ljava/lang/String;JJ)V" } : Jvm.MethodName) prog_8_method_5_code (5 : Nat) (Option.none : Option Jvm.ClassFile.FieldType)).before args0 about1 = true := code_word (m := ⟨3, 2⟩) (meth := k3m2) (c := k3c2) (by decide +kernel) rfl rfl rfl (by decide +kernel)
set_option maxRecDepth 65536 in
theorem w_c3 : (Jvm.Cond.code ({ cls := "com/example/fides/fides/HybridTimestamp", name := "<init>", desc := "(J)V" } : Jvm.MethodName) prog_8_method_1_code (3 : Nat) (Option.none : Option Jvm.ClassFile.FieldType)).before args0 about1 = true := code_word (m := ⟨3, 0⟩) (meth := k3m0) (c := k3c0) (by decide +kernel) rfl rfl rfl (by decide +kernel)
set_option maxRecDepth 65536 in
theorem w_c4 : (Jvm.Cond.code ({ cls := "java/lang/Object", name := "<init>", desc := "()V" } : Jvm.MethodName) object_method_1_code (1 : Nat) (Option.none : Option Jvm.ClassFile.FieldType)).before args0 about1 = true := code_word (m := ⟨0, 0⟩) (meth := k0m0) (c := k0c0) (by decide +kernel) rfl rfl rfl (by decide +kernel)
set_option maxRecDepth 65536 in
theorem w_c5 : (Jvm.Cond.code ({ cls := "com/example/fides/fides/HybridTimestamp", name := "millis", desc := "()J" } : Jvm.MethodName) prog_8_method_6_code (1 : Nat) (Option.some Jvm.ClassFile.FieldType.long)).before args0 about1 = true := code_word (m := ⟨3, 3⟩) (meth := k3m3) (c := k3c3) (by decide +kernel) rfl rfl rfl (by decide +kernel)
set_option maxRecDepth 65536 in
theorem w_c6 : (Jvm.Cond.code ({ cls := "com/example/fides/fides/HybridTimestamp", name := "counter", desc := "()I" } : Jvm.MethodName) prog_8_method_7_code (1 : Nat) (Option.some Jvm.ClassFile.FieldType.int)).before args0 about1 = true := code_word (m := ⟨3, 4⟩) (meth := k3m4) (c := k3c4) (by decide +kernel) rfl rfl rfl (by decide +kernel)
set_option maxRecDepth 65536 in
theorem w_c7 : (Jvm.Cond.code ({ cls := "com/example/fides/fides/HybridTimestampOfPinLaw", name := "lexCompare", desc := "(JIJI)I" } : Jvm.MethodName) method_3_code (6 : Nat) (Option.some Jvm.ClassFile.FieldType.int)).before args0 about1 = true := code_word (m := ⟨1, 2⟩) (meth := k1m2) (c := k1c2) (by decide +kernel) rfl rfl rfl (by decide +kernel)
set_option maxRecDepth 65536 in
theorem w_c8 : (Jvm.Cond.code ({ cls := "com/example/fides/fides/HybridTimestamp", name := "compareTo", desc := "(Lcom/example/fides/fides/HybridTimestamp;)I" } : Jvm.MethodName) prog_8_method_11_code (2 : Nat) (Option.some Jvm.ClassFile.FieldType.int)).before args0 about1 = true := code_word (m := ⟨3, 5⟩) (meth := k3m5) (c := k3c5) (by decide +kernel) rfl rfl rfl (by decide +kernel)
set_option maxRecDepth 65536 in
theorem w_c9 : (Jvm.Cond.code ({ cls := "java/lang/Long", name := "compareUnsigned", desc := "(JJ)I" } : Jvm.MethodName) jdk_35_method_43_code (4 : Nat) (Option.some Jvm.ClassFile.FieldType.int)).before args0 about1 = true := code_word (m := ⟨10, 1⟩) (meth := k10m1) (c := k10c1) (by decide +kernel) rfl rfl rfl (by decide +kernel)
set_option maxRecDepth 65536 in
theorem w_c10 : (Jvm.Cond.code ({ cls := "java/lang/Long", name := "compare", desc := "(JJ)I" } : Jvm.MethodName) jdk_35_method_42_code (4 : Nat) (Option.some Jvm.ClassFile.FieldType.int)).before args0 about1 = true := code_word (m := ⟨10, 0⟩) (meth := k10m0) (c := k10c0) (by decide +kernel) rfl rfl rfl (by decide +kernel)
set_option maxRecDepth 65536 in
theorem w_c11 : (Jvm.Cond.code ({ cls := "com/example/fides/fides/HybridTimestampOfPinLaw", name := "sign", desc := "(I)I" } : Jvm.MethodName) method_4_code (1 : Nat) (Option.some Jvm.ClassFile.FieldType.int)).before args0 about1 = true := code_word (m := ⟨1, 3⟩) (meth := k1m3) (c := k1c3) (by decide +kernel) rfl rfl rfl (by decide +kernel)
set_option maxRecDepth 65536 in
theorem w_c12 : (Jvm.Cond.code ({ cls := "com/example/fides/fides/HybridTimestamp", name := "equals", desc := "(Ljava/lang/Object;)Z" } : Jvm.MethodName) prog_8_method_12_code (3 : Nat) (Option.some Jvm.ClassFile.FieldType.boolean)).before args0 about1 = true := code_word (m := ⟨3, 6⟩) (meth := k3m6) (c := k3c6) (by decide +kernel) rfl rfl rfl (by decide +kernel)
def codes1 : List Jvm.Cond := [Jvm.Cond.code x code maxLocals ret, Jvm.Cond.code ({ cls := "com/example/fides/fides/HybridTimestamp", name := "of", desc := "(JI)Lcom/example/fides/fides/HybridTimestamp;" } : Jvm.MethodName) prog_8_method_2_code (3 : Nat) (Option.some (Jvm.ClassFile.FieldType.object "com/example/fides/fides/HybridTimestamp")), Jvm.Cond.code ({ cls := "com/example/fides/fides/HybridTimestamp", name := "requireInRange", desc := "(Ljava/lang/String;JJ)V" } : Jvm.MethodName) prog_8_method_5_code (5 : Nat) (Option.none : Option Jvm.ClassFile.FieldType), Jvm.Cond.code ({ cls := "com/example/fides/fides/HybridTimestamp", name := "<init>", desc := "(J)V" } : Jvm.MethodName) prog_8_method_1_code (3 : Nat) (Option.none : Option Jvm.ClassFile.FieldType), Jvm.Cond.code ({ cls := "java/lang/Object", name := "<init>", desc := "()V" } : Jvm.MethodName) object_method_1_code (1 : Nat) (Option.none : Option Jvm.ClassFile.FieldType), Jvm.Cond.code ({ cls := "com/example/fides/fides/HybridTimestamp", name := "millis", desc := "()J" } : Jvm.MethodName) prog_8_method_6_code (1 : Nat) (Option.some Jvm.ClassFile.FieldType.long), Jvm.Cond.code ({ cls := "com/example/fides/fides/HybridTimestamp", name := "counter", desc := "()I" } : Jvm.MethodName) prog_8_method_7_code (1 : Nat) (Option.some Jvm.ClassFile.FieldType.int), Jvm.Cond.code ({ cls := "com/example/fides/fides/HybridTimestampOfPinLaw", name := "lexCompare", desc := "(JIJI)I" } : Jvm.MethodName) method_3_code (6 : Nat) (Option.some Jvm.ClassFile.FieldType.int), Jvm.Cond.code ({ cls := "com/example/fides/fides/HybridTimestamp", name := "compareTo", desc := "(Lcom/example/fides/fides/HybridTimestamp;)I" } : Jvm.MethodName) prog_8_method_11_code (2 : Nat) (Option.some Jvm.ClassFile.FieldType.int), Jvm.Cond.code ({ cls := "java/lang/Long", name := "compareUnsigned", desc := "(JJ)I" } : Jvm.MethodName) jdk_35_method_43_code (4 : Nat) (Option.some Jvm.ClassFile.FieldType.int), Jvm.Cond.code ({ cls := "java/lang/Long", name := "compare", desc := "(JJ)I" } : Jvm.MethodName) jdk_35_method_42_code (4 : Nat) (Option.some Jvm.ClassFile.FieldType.int), Jvm.Cond.code ({ cls := "com/example/fides/fides/HybridTimestampOfPinLaw", name := "sign", desc := "(I)I" } : Jvm.MethodName) method_4_code (1 : Nat) (Option.some Jvm.ClassFile.FieldType.int), Jvm.Cond.code ({ cls := "com/example/fides/fides/HybridTimestamp", name := "equals", desc := "(Ljava/lang/Object;)Z" } : Jvm.MethodName) prog_8_method_12_code (3 : Nat) (Option.some Jvm.ClassFile.FieldType.boolean)]
set_option maxRecDepth 65536 in
theorem codes_eq : words1.filter isCode = codes1 := rfl
theorem w_codes : ∀ c ∈ words1.filter isCode, c.before args0 about1 = true := by
  rw [codes_eq]
  intro c hc
  simp only [codes1, List.mem_cons, List.not_mem_nil, or_false] at hc
  rcases hc with rfl | rfl | rfl | rfl | rfl | rfl | rfl | rfl | rfl | rfl | rfl | rfl | rfl
  · exact w_c0
  · exact w_c1
  · exact w_c2
  · exact w_c3
  · exact w_c4
  · exact w_c5
  · exact w_c6
  · exact w_c7
  · exact w_c8
  · exact w_c9
  · exact w_c10
  · exact w_c11
  · exact w_c12
set_option maxRecDepth 65536 in
theorem w_t1 : (words1.take 24).all (fun c => isCode c || c.before args0 about1) = true := by decide +kernel
set_option maxRecDepth 65536 in
theorem w_t2 : ((words1.drop 24).take 24).all (fun c => isCode c || c.before args0 about1) = true := by decide +kernel
set_option maxRecDepth 65536 in
theorem w_t3 : ((words1.drop 24).drop 24).all (fun c => isCode c || c.before args0 about1) = true := by decide +kernel
theorem w_tables : (allAtoms (Jvm.Cond.code x code maxLocals ret :: tables_1)).before args0 about1 = true := by
  rw [allAtoms_all]
  show words1.all (fun c => c.before args0 about1) = true
  refine all_split ?_ w_codes
  rw [← List.take_append_drop 24 words1, List.all_append, w_t1, ← List.take_append_drop 24 (words1.drop 24), List.all_append, w_t2, w_t3]
  rfl
set_option maxRecDepth 65536 in
theorem w_case : (Jvm.Cond.and given_1 narrow_1).before args0 about1 = true := by decide +kernel
theorem w_applies : (headSpec (Jvm.Cond.code x code maxLocals ret :: tables_1) room_1).applies x e0.platform about1 = true :=
  (Spec.applies_iff w_frames).mpr ⟨w_running, w_runnable, w_alone, w_named, w_hears, w_ripe, w_room, w_tables⟩
theorem atStart : AtStart classFile x code maxLocals ret World_1 tables_1 room_1 Calls_1 rest_1 Pre_1 launch0 p0 e0 about1 theMethod args0 below0 :=
  ⟨lists_1, trivial, launch0.admits_env _ _ _, launch0.least_env, fairChoices_fair.cas, fairChoices_fair.clock, w_frames, w_args, w_heap, w_applies, trivial, trivial, w_case⟩
end start1
theorem witness_1 : WitnessClaimed_1 := ⟨start1.p0, start1.e0, start1.about1, start1.theMethod, start1.args0, start1.below0, start1.atStart⟩
end Jvm.Pilot.@@N@@
