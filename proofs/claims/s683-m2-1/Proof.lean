import JvmDerived
import JvmDerived.Pilot.@@N@@Statement
import JvmDerived.Pilot.@@N@@Code
set_option linter.unusedVariables false
set_option linter.unusedSimpArgs false
namespace Jvm.RoadKit
open Sem ClassFile Op Lib Jvm.Stand Jvm.Free Jvm.LawKit
section New
variable {p : Program} {l : Launch} {e : Env} {R : Room} {s : State} {m : MethodId} {args : Array Value} {below : List Frame} {meth : Method} {c : Code} {T : State} {locs : List Loc} {cells slots : Nat}
theorem retI (X : Stand p l e R s m args below meth c T locs cells slots) (hx : p.tables.exec = Jvm.exec) {pc : Nat} {Ls : Array Slot} {z : Int32} {rest : List Value} (hret : meth.sig.returnType = some .int) (hd : decode c.code pc = .ok (.ireturn, 1)) {fs : List Frame}
    (hl : ∀ (f : JFrame) (acts : List Action), f.method = m → f.locked = none → f.entered = [] → (doReturn e (T.setTop f) acts (some (.int z))).1 = T.setFrames fs) : Steps p.tables e below (T.setTop (mkF m pc Ls (.int z :: rest))) (T.setFrames fs) := by
  have hm' : T.vm.method? m = some meth := X.method'
  have hn : narrow .int (.int z) = .int z := rfl
  show Steps p.tables e below (T.setTop { method := m, pc := pc, locals := Ls, stack := _ :: rest, locked := none }) _
  jvm_step X.here [X.here.top, hx, hd, hm', hret, hn]
  first | (intro acts; rw [hl _ acts rfl rfl rfl]) | rw [hl _ _ rfl rfl rfl]
  exact Steps.refl _
end New
end Jvm.RoadKit
namespace Jvm.Pilot.@@N@@
open Jvm Jvm.ClassFile Sem Op Lib Jvm.Free Jvm.Stand Jvm.LawKit Jvm.RoadKit Bundle Jvm.Pilot.@@N@@.Jvm.D
theorem d2_0 : decode prog_3_method_1_code 0 = .ok (.getstatic 22, 3) := by decide +kernel
theorem d2_3 : decode prog_3_method_1_code 3 = .ok (.invokevirtual 26, 3) := by decide +kernel
theorem d2_6 : decode prog_3_method_1_code 6 = .ok (.checkcast 27, 3) := by decide +kernel
theorem d2_9 : decode prog_3_method_1_code 9 = .ok (.areturn, 1) := by decide +kernel
def Q2 (Z : State) (va : Addr) (kv : ClassId) (u0 u1 u2 u3 u4 u5 : Addr) (h0 : Heap) (n0 : Nat) (v : Option Value) (h : Heap) (L : List Loc) : Prop := ∃ b : Addr, v = some (.ref b) ∧ Fr n0 L ∧ Ext h0 h ∧ Arv Z h b kv (.object "com/example/moffett/moffett/catalogue/ConfigSource") (6 : Int32) [(.ref u0), (.ref u1), (.ref u2), (.ref u3), (.ref u4), (.ref u5)] .null
theorem ef_rm2 (m : MethodId)  : entryFrame m #[] 0 = mkF m 0 #[] [] := by first | (simp [entryFrame, mkF, argsToLocals, Value.category]; done) | rfl
theorem pnc_com_example_moffett_moffett_catalogue_ConfigSource : plainName "com/example/moffett/moffett/catalogue/ConfigSource" = true := by first | (simp [plainName, overriddenIn]; done) | decide +kernel
set_option maxRecDepth 65536 in
set_option maxHeartbeats 40000000 in
theorem rm2 (l : Launch) (Z : State) (a0 : Array Value) (hw : ∀ d ∈ tables_1, d.before a0 Z = true) (ws : List Jvm.Cond) (va : Addr) (kv : ClassId) (u0 u1 u2 u3 u4 u5 : Addr) (h0 : Heap) (n0 : Nat) (Z0 : n0 ≤ h0.size) (SV : Sta Z h0 "com/example/moffett/moffett/catalogue/ConfigSource" "$VALUES" "[Lcom/example/moffett/moffett/catalogue/ConfigSource;" (.ref va)) (AV : Arv Z h0 va kv (.object "com/example/moffett/moffett/catalogue/ConfigSource") (6 : Int32) [(.ref u0), (.ref u1), (.ref u2), (.ref u3), (.ref u4), (.ref u5)] .null) (EV : Exa Z h0 va "[Lcom/example/moffett/moffett/catalogue/ConfigSource;") (FC : ∀ cl : Cell, h0[va]? = some cl → FitC Z cl) :
    MetFree l (⟨"com/example/moffett/moffett/catalogue/ConfigSource", "values", "()[Lcom/example/moffett/moffett/catalogue/ConfigSource;"⟩ : MethodName) (head1 (Jvm.Cond.code (⟨"com/example/moffett/moffett/catalogue/ConfigSource", "values", "()[Lcom/example/moffett/moffett/catalogue/ConfigSource;"⟩ : MethodName) prog_3_method_1_code 0 (some (.array (.object "com/example/moffett/moffett/catalogue/ConfigSource"))) :: ws) ({ frames := 1, cells := 1, slots := 6, locals := 14 } : Room)) (fun a U => a = #[] ∧ Z.Warmed39 U.vm ∧ U.heap = h0) (fun _ _ _ _ _ => True) (fun _ U o U' => ∃ v L, o = .returned v ∧ Q2 Z va kv u0 u1 u2 u3 u4 u5 h0 n0 v U'.heap L ∧ FrameEnd U o U' L ({ frames := 1, cells := 1, slots := 6, locals := 14 } : Room).cells ({ frames := 1, cells := 1, slots := 6, locals := 14 } : Room).slots) := by
  refine MetFree.of_bodySF (plainFor_of_name pnc_com_example_moffett_moffett_catalogue_ConfigSource) hisR ?_
  intro p e s m args below meth c s₁ Bd hml0 hP hK
  obtain ⟨rfl, hZ, hh⟩ := hP
  have hx := Bd.exec
  have hby := Bd.bytes
  have hml : c.maxLocals = 0 := hml0
  have hown : s.vm.findClass "com/example/moffett/moffett/catalogue/ConfigSource" = some m.cls := findClass_of_methodNamed Bd.named
  have hnm := (name_of_methodNamed Bd.named Bd.method).1
  have X0 : Stand p l e ({ frames := 1, cells := 1, slots := 6, locals := 14 } : Room) s m #[] below meth c s₁ [] 0 0 := Stand.of_body Bd
  have e0 : s₁.heap = h0 := by rw [← hh, Bd.state]; rfl
  have N0 := Fr.nil n0
  have kp0 : Keep h0 h0 [] := Keep.refl _ _
  have G0 : ∀ t, Steps p.tables e below (s₁.setTop (mkF m 0 #[] [])) t → Steps p.tables e below (s₁.setTop (entryFrame m #[] 0)) t := fun t k => castTop (ef_rm2 m ) k
  obtain ⟨T1, X1, e1, st1⟩ := getS2 X0 hx hZ hown (host := "") (Or.inl (hw _ (List.mem_of_getElem? (i := 9) rfl))) Via.refl e0 SV (g := (mkF m 0 #[] [])) rfl (hb hby d2_0)
  obtain ⟨cl, Ar, qk, Sz, Mz, Hz, Gz⟩ := id AV
  obtain ⟨T2, h2, X2, e2, E2, Ar2, A2, st2⟩ := cloneA X1 hx hZ hown (hw _ (List.mem_of_getElem? (i := 11) rfl)) (hw _ (List.mem_of_getElem? (i := 12) rfl)) (hw _ (List.mem_of_getElem? (i := 16) rfl)) (hw _ (List.mem_of_getElem? (i := 14) rfl)) (hw _ (List.mem_of_getElem? (i := 15) rfl)) (hw _ (List.mem_of_getElem? (i := 17) rfl)) e1 Ar EV (FC cl Ar.1) (g := (mkF m 3 #[] [(.ref va)])) rfl (by rw [hml]; rfl) rfl (hb hby d2_3) (by decide) (W := 0) (by show 2 * 0 + _ ≤ _; exact Nat.le_of_eq rfl) (by decide) (cap := 6) (by rw [Sz]; decide) (by decide) (by decide)
  obtain ⟨b2, g2⟩ : ∃ z, z = h0.size := ⟨_, rfl⟩
  rw [← g2] at A2 Ar2 st2
  have g_b2 : n0 ≤ b2 := Nat.le_trans Z0 (Nat.le_of_eq g2.symm)
  have sz_b2 : h0.size ≤ b2 := Nat.le_trans kp0.1 (Nat.le_of_eq g2.symm)
  have ne_va_b2 : va ≠ b2 := Nat.ne_of_lt (Nat.lt_of_lt_of_le AV.lt (Nat.le_of_eq g2.symm))
  have f3 : Sta Z h2 "com/example/moffett/moffett/catalogue/ConfigSource" "$VALUES" "[Lcom/example/moffett/moffett/catalogue/ConfigSource;" (.ref va) := SV.ext E2
  have f4 : Arv Z h2 va kv (.object "com/example/moffett/moffett/catalogue/ConfigSource") (6 : Int32) [(.ref u0), (.ref u1), (.ref u2), (.ref u3), (.ref u4), (.ref u5)] .null := AV.ext E2
  have f5 : Exa Z h2 va "[Lcom/example/moffett/moffett/catalogue/ConfigSource;" := EV.ext E2
  have z6 : n0 ≤ h2.size := Nat.le_trans Z0 E2.1
  have kp7 : Keep h0 h2 [] := kp0.ext E2
  have f8 : Arv Z h2 b2 kv (.object "com/example/moffett/moffett/catalogue/ConfigSource") (6 : Int32) [(.ref u0), (.ref u1), (.ref u2), (.ref u3), (.ref u4), (.ref u5)] .null := ⟨_, Ar2, qk, Sz, Mz, Hz, Gz⟩
  obtain ⟨T9, X9, e9, st9⟩ := castY X2 hx hZ hown (hw _ (List.mem_of_getElem? (i := 24) rfl)) e2 (Ins.self A2) (g := (mkF m 6 #[] [(.ref b2)])) rfl rfl (hb hby d2_6)
  obtain ⟨fs, hr, hrun, hended, hW, hsame⟩ := X9.leave (v := some (.ref b2)) (fun h => by rw [Bd.returns] at h; cases h)
  refine ⟨_, _, G0 _ ?_, hrun, hended, _, _, rfl, ?_, ⟨_, rfl⟩, hW, hsame.mono (by decide) (by decide)⟩
  · skip
    show Steps p.tables e below (s₁.setTop (mkF m 0 #[] [])) _
    refine st1 _ ?_
    show Steps p.tables e below (T1.setTop (mkF m 3 #[] [(.ref va)])) _
    refine st2 _ ?_
    show Steps p.tables e below (T2.setTop (mkF m 6 #[] [(.ref b2)])) _
    refine st9 _ ?_
    show Steps p.tables e below (T9.setTop (mkF m 9 #[] [(.ref b2)])) _
    exact retOut X9 hx Bd.returns rfl (Or.inr (Or.inr (Or.inr (Or.inr ⟨rfl, rfl, rfl⟩)))) (hb hby d2_9) hr
  · show Q2 Z va kv u0 u1 u2 u3 u4 u5 h0 n0 _ T9.heap _
    rw [e9]
    exact ⟨b2, rfl, N0, E2, f8⟩
theorem d1_0 : decode prog_3_method_5_code 0 = .ok (.invokestatic 45, 3) := by decide +kernel
theorem pd_0 : parseMethodDescriptor "()[Lcom/example/moffett/moffett/catalogue/ConfigSource;" = some ⟨[], some (.array (.object "com/example/moffett/moffett/catalogue/ConfigSource"))⟩ := by decide +kernel
theorem d1_3 : decode prog_3_method_5_code 3 = .ok (.astore_n 1, 1) := by decide +kernel
theorem d1_4 : decode prog_3_method_5_code 4 = .ok (.aload_n 1, 1) := by decide +kernel
theorem d1_5 : decode prog_3_method_5_code 5 = .ok (.arraylength, 1) := by decide +kernel
theorem d1_6 : decode prog_3_method_5_code 6 = .ok (.istore_n 2, 1) := by decide +kernel
theorem d1_7 : decode prog_3_method_5_code 7 = .ok (.iconst 0, 1) := by decide +kernel
theorem d1_8 : decode prog_3_method_5_code 8 = .ok (.istore_n 3, 1) := by decide +kernel
theorem d1_9 : decode prog_3_method_5_code 9 = .ok (.iload_n 3, 1) := by decide +kernel
theorem d1_10 : decode prog_3_method_5_code 10 = .ok (.iload_n 2, 1) := by decide +kernel
theorem d1_11 : decode prog_3_method_5_code 11 = .ok (.if_icmp .ge 26, 3) := by decide +kernel
theorem d1_14 : decode prog_3_method_5_code 14 = .ok (.aload_n 1, 1) := by decide +kernel
theorem d1_15 : decode prog_3_method_5_code 15 = .ok (.iload_n 3, 1) := by decide +kernel
theorem d1_16 : decode prog_3_method_5_code 16 = .ok (.aaload, 1) := by decide +kernel
theorem d1_17 : decode prog_3_method_5_code 17 = .ok (.astore 4, 2) := by decide +kernel
theorem d1_19 : decode prog_3_method_5_code 19 = .ok (.aload 4, 2) := by decide +kernel
theorem d1_21 : decode prog_3_method_5_code 21 = .ok (.getfield 41, 3) := by decide +kernel
theorem d1_24 : decode prog_3_method_5_code 24 = .ok (.iload_n 0, 1) := by decide +kernel
theorem d1_25 : decode prog_3_method_5_code 25 = .ok (.if_icmp .ne 6, 3) := by decide +kernel
theorem d1_28 : decode prog_3_method_5_code 28 = .ok (.aload 4, 2) := by decide +kernel
theorem d1_30 : decode prog_3_method_5_code 30 = .ok (.areturn, 1) := by decide +kernel
theorem d1_31 : decode prog_3_method_5_code 31 = .ok (.iinc 3 1, 3) := by decide +kernel
theorem d1_34 : decode prog_3_method_5_code 34 = .ok (.goto (-25), 3) := by decide +kernel
theorem d1_37 : decode prog_3_method_5_code 37 = .ok (.getstatic 19, 3) := by decide +kernel
theorem d1_40 : decode prog_3_method_5_code 40 = .ok (.areturn, 1) := by decide +kernel
def fof (p0 : Int32) (u0 u1 u2 u3 u4 u5 : Addr) : Addr := if (1 : Int32) = p0 then (u0) else (if (2 : Int32) = p0 then (u1) else (if (3 : Int32) = p0 then (u2) else (if (4 : Int32) = p0 then (u3) else (if (5 : Int32) = p0 then (u4) else (if (0 : Int32) = p0 then (u5) else (u5))))))
def Q1 (Z : State) (p0 : Int32) (va : Addr) (kv : ClassId) (u0 u1 u2 u3 u4 u5 : Addr) (h0 : Heap) (n0 : Nat) (v : Option Value) (h : Heap) (L : List Loc) : Prop := v = some (.ref (fof p0 u0 u1 u2 u3 u4 u5)) ∧ Fr n0 L ∧ Ext h0 h
theorem ef_rm1 (m : MethodId) (x0 : Int32) : entryFrame m #[(.int x0)] 5 = mkF m 0 #[.val (.int x0), .unset, .unset, .unset, .unset] [] := by first | (simp [entryFrame, mkF, argsToLocals, Value.category]; done) | rfl
set_option maxRecDepth 65536 in
set_option maxHeartbeats 40000000 in
theorem rm1 (l : Launch) (Z : State) (a0 : Array Value) (hw : ∀ d ∈ tables_1, d.before a0 Z = true) (ws : List Jvm.Cond) (p0 : Int32) (va : Addr) (kv : ClassId) (u0 u1 u2 u3 u4 u5 : Addr) (h0 : Heap) (n0 : Nat) (Z0 : n0 ≤ h0.size) (SV : Sta Z h0 "com/example/moffett/moffett/catalogue/ConfigSource" "$VALUES" "[Lcom/example/moffett/moffett/catalogue/ConfigSource;" (.ref va)) (AV : Arv Z h0 va kv (.object "com/example/moffett/moffett/catalogue/ConfigSource") (6 : Int32) [(.ref u0), (.ref u1), (.ref u2), (.ref u3), (.ref u4), (.ref u5)] .null) (EV : Exa Z h0 va "[Lcom/example/moffett/moffett/catalogue/ConfigSource;") (S_UNKNOWN : Sta Z h0 "com/example/moffett/moffett/catalogue/ConfigSource" "UNKNOWN" "Lcom/example/moffett/moffett/catalogue/ConfigSource;" (.ref u5)) (F_TOPIC_SETTING : Fld Z h0 u0 "com/example/moffett/moffett/catalogue/ConfigSource" "id" "B" (.int (1 : Int32))) (F_PER_BROKER_SETTING : Fld Z h0 u1 "com/example/moffett/moffett/catalogue/ConfigSource" "id" "B" (.int (2 : Int32))) (F_CLUSTER_DEFAULT_SETTING : Fld Z h0 u2 "com/example/moffett/moffett/catalogue/ConfigSource" "id" "B" (.int (3 : Int32))) (F_STATIC_BROKER_SETTING : Fld Z h0 u3 "com/example/moffett/moffett/catalogue/ConfigSource" "id" "B" (.int (4 : Int32))) (F_BUILT_IN_DEFAULT : Fld Z h0 u4 "com/example/moffett/moffett/catalogue/ConfigSource" "id" "B" (.int (5 : Int32))) (F_UNKNOWN : Fld Z h0 u5 "com/example/moffett/moffett/catalogue/ConfigSource" "id" "B" (.int (0 : Int32))) (FC : ∀ cl : Cell, h0[va]? = some cl → FitC Z cl) :
    MetFree l (⟨"com/example/moffett/moffett/catalogue/ConfigSource", "of", "(B)Lcom/example/moffett/moffett/catalogue/ConfigSource;"⟩ : MethodName) (head1 (Jvm.Cond.code (⟨"com/example/moffett/moffett/catalogue/ConfigSource", "of", "(B)Lcom/example/moffett/moffett/catalogue/ConfigSource;"⟩ : MethodName) prog_3_method_5_code 5 (some (.object "com/example/moffett/moffett/catalogue/ConfigSource")) :: ws) ({ frames := 2, cells := 1, slots := 6, locals := 25 } : Room)) (fun a U => a = #[(.int p0)] ∧ Z.Warmed39 U.vm ∧ U.heap = h0) (fun _ _ _ _ _ => True) (fun _ U o U' => ∃ v L, o = .returned v ∧ Q1 Z p0 va kv u0 u1 u2 u3 u4 u5 h0 n0 v U'.heap L ∧ FrameEnd U o U' L ({ frames := 2, cells := 1, slots := 6, locals := 25 } : Room).cells ({ frames := 2, cells := 1, slots := 6, locals := 25 } : Room).slots) := by
  refine MetFree.of_bodySF (plainFor_of_name pnc_com_example_moffett_moffett_catalogue_ConfigSource) hisR ?_
  intro p e s m args below meth c s₁ Bd hml0 hP hK
  obtain ⟨rfl, hZ, hh⟩ := hP
  have hx := Bd.exec
  have hby := Bd.bytes
  have hml : c.maxLocals = 5 := hml0
  have hown : s.vm.findClass "com/example/moffett/moffett/catalogue/ConfigSource" = some m.cls := findClass_of_methodNamed Bd.named
  have hnm := (name_of_methodNamed Bd.named Bd.method).1
  have X0 : Stand p l e ({ frames := 2, cells := 1, slots := 6, locals := 25 } : Room) s m #[(.int p0)] below meth c s₁ [] 0 0 := Stand.of_body Bd
  have e0 : s₁.heap = h0 := by rw [← hh, Bd.state]; rfl
  have N0 := Fr.nil n0
  have kp0 : Keep h0 h0 [] := Keep.refl _ _
  have G0 : ∀ t, Steps p.tables e below (s₁.setTop (mkF m 0 #[.val (.int p0), .unset, .unset, .unset, .unset] [])) t → Steps p.tables e below (s₁.setTop (entryFrame m #[(.int p0)] 5)) t := fun t k => castTop (ef_rm1 m p0) k
  obtain ⟨_, _, ⟨T1, L1, k1, n1⟩, -, X1, ⟨Lc1, hQ1, l1, y1, z1⟩, st1⟩ := Jvm.LawKit.callS X0 hx (y := (⟨"com/example/moffett/moffett/catalogue/ConfigSource", "values", "()[Lcom/example/moffett/moffett/catalogue/ConfigSource;"⟩ : MethodName)) hown (mvT hZ (hw _ (List.mem_of_getElem? (i := 6) rfl))) (mvT hZ (hw _ (List.mem_of_getElem? (i := 7) rfl))) (mvT hZ (hw _ (List.mem_of_getElem? (i := 1) rfl))) (mvT hZ (hw _ (List.mem_of_getElem? (i := 8) rfl))) (by decide) (backOf (W := 0) (rm2 l Z a0 hw []  va kv u0 u1 u2 u3 u4 u5 h0 n0 Z0 SV AV EV FC) hZ (hw _ (List.mem_of_getElem? (i := 8) rfl)) (hw _ (List.mem_of_getElem? (i := 1) rfl)) (by decide) (by decide)) (g := (mkF m 0 #[.val (.int p0), .unset, .unset, .unset, .unset] [])) rfl (by rw [hml]; rfl) (argsL := []) (rest := []) (lenOf pd_0 rfl) rfl (by show 2 * 0 + _ ≤ _; exact Nat.le_of_eq rfl) (hb hby d1_0) (fun _ _ => ⟨rfl, e0, (by decide : 0 + 1 ≤ _), (by decide : 0 + 6 ≤ _)⟩)
  dsimp only [Pt.U, Pt.locs, Pt.cells, Pt.slots] at X1 l1 y1 z1 st1 hQ1
  subst l1 y1 z1
  obtain ⟨bb1, rfl, N1q, E1, V1⟩ := hQ1
  have N1 := Fr.app N0 N1q
  have f2 : Sta Z T1.heap "com/example/moffett/moffett/catalogue/ConfigSource" "$VALUES" "[Lcom/example/moffett/moffett/catalogue/ConfigSource;" (.ref va) := SV.ext E1
  have f3 : Arv Z T1.heap va kv (.object "com/example/moffett/moffett/catalogue/ConfigSource") (6 : Int32) [(.ref u0), (.ref u1), (.ref u2), (.ref u3), (.ref u4), (.ref u5)] .null := AV.ext E1
  have f4 : Exa Z T1.heap va "[Lcom/example/moffett/moffett/catalogue/ConfigSource;" := EV.ext E1
  have f5 : Sta Z T1.heap "com/example/moffett/moffett/catalogue/ConfigSource" "UNKNOWN" "Lcom/example/moffett/moffett/catalogue/ConfigSource;" (.ref u5) := S_UNKNOWN.ext E1
  have f6 : Fld Z T1.heap u0 "com/example/moffett/moffett/catalogue/ConfigSource" "id" "B" (.int (1 : Int32)) := F_TOPIC_SETTING.ext E1
  have f7 : Fld Z T1.heap u1 "com/example/moffett/moffett/catalogue/ConfigSource" "id" "B" (.int (2 : Int32)) := F_PER_BROKER_SETTING.ext E1
  have f8 : Fld Z T1.heap u2 "com/example/moffett/moffett/catalogue/ConfigSource" "id" "B" (.int (3 : Int32)) := F_CLUSTER_DEFAULT_SETTING.ext E1
  have f9 : Fld Z T1.heap u3 "com/example/moffett/moffett/catalogue/ConfigSource" "id" "B" (.int (4 : Int32)) := F_STATIC_BROKER_SETTING.ext E1
  have f10 : Fld Z T1.heap u4 "com/example/moffett/moffett/catalogue/ConfigSource" "id" "B" (.int (5 : Int32)) := F_BUILT_IN_DEFAULT.ext E1
  have f11 : Fld Z T1.heap u5 "com/example/moffett/moffett/catalogue/ConfigSource" "id" "B" (.int (0 : Int32)) := F_UNKNOWN.ext E1
  have z12 : n0 ≤ T1.heap.size := Nat.le_trans Z0 E1.1
  have kp13 : Keep h0 T1.heap [] := kp0.ext E1
  obtain ⟨cl14, Ar14, q14, S14, M14, H14, G14⟩ := id V1
  have G15 : ∀ t, Steps p.tables e below (T1.setTop (mkF m 11 #[.val (.int p0), .val (.ref bb1), .val (.int (6 : Int32)), .val (.int (0 : Int32)), .unset] [(.int (6 : Int32)), (.int (0 : Int32))])) t → Steps p.tables e below (s₁.setTop (entryFrame m #[(.int p0)] 5)) t := by
    intro t kt
    refine G0 _ ?_
    show Steps p.tables e below (s₁.setTop (mkF m 0 #[.val (.int p0), .unset, .unset, .unset, .unset] [])) _
    refine st1 _ ?_
    show Steps p.tables e below (T1.setTop (mkF m 3 #[.val (.int p0), .unset, .unset, .unset, .unset] [(.ref bb1)])) _
    refine XS.astoreN X1.here hx rfl (hb hby d1_3) rfl rfl (l' := #[.val (.int p0), .val (.ref bb1), .unset, .unset, .unset]) rfl ?_
    show Steps p.tables e below (T1.setTop (mkF m 4 #[.val (.int p0), .val (.ref bb1), .unset, .unset, .unset] [])) _
    refine XS.aloadN X1.here hx rfl (hb hby d1_4) rfl rfl ?_
    show Steps p.tables e below (T1.setTop (mkF m 5 #[.val (.int p0), .val (.ref bb1), .unset, .unset, .unset] [(.ref bb1)])) _
    refine X1.arraylength hx Ar14.1 (State.isArrayOf_alike hZ.alike Ar14.2.1) (g := (mkF m 5 #[.val (.int p0), .val (.ref bb1), .unset, .unset, .unset] [(.ref bb1)])) rfl rfl (hb hby d1_5) _ ?_
    rw [len_of S14 M14]
    show Steps p.tables e below (T1.setTop (mkF m 6 #[.val (.int p0), .val (.ref bb1), .unset, .unset, .unset] [(.int (6 : Int32))])) _
    refine XS.istoreN X1.here hx rfl (hb hby d1_6) rfl (l' := #[.val (.int p0), .val (.ref bb1), .val (.int (6 : Int32)), .unset, .unset]) rfl ?_
    show Steps p.tables e below (T1.setTop (mkF m 7 #[.val (.int p0), .val (.ref bb1), .val (.int (6 : Int32)), .unset, .unset] [])) _
    refine XS.iconst X1.here hx rfl (hb hby d1_7) ?_
    show Steps p.tables e below (T1.setTop (mkF m 8 #[.val (.int p0), .val (.ref bb1), .val (.int (6 : Int32)), .unset, .unset] [(.int (0 : Int32))])) _
    refine XS.istoreN X1.here hx rfl (hb hby d1_8) rfl (l' := #[.val (.int p0), .val (.ref bb1), .val (.int (6 : Int32)), .val (.int (0 : Int32)), .unset]) rfl ?_
    show Steps p.tables e below (T1.setTop (mkF m 9 #[.val (.int p0), .val (.ref bb1), .val (.int (6 : Int32)), .val (.int (0 : Int32)), .unset] [])) _
    refine XS.iloadN X1.here hx rfl (hb hby d1_9) rfl ?_
    show Steps p.tables e below (T1.setTop (mkF m 10 #[.val (.int p0), .val (.ref bb1), .val (.int (6 : Int32)), .val (.int (0 : Int32)), .unset] [(.int (0 : Int32))])) _
    refine XS.iloadN X1.here hx rfl (hb hby d1_10) rfl ?_
    exact kt
  obtain ⟨cl16, Ar16, q16, S16, M16, H16, G16⟩ := id V1
  have hin16 : ¬ ((0 : Int32) < 0 ∨ cl16.slots.size ≤ ((0 : Int32)).toNatClampNeg) := inb_of S16 ⟨by decide, by decide⟩
  have hat16 : cl16.slots[((0 : Int32)).toNatClampNeg]? = some (.ref u0) := H16.at hin16 rfl
  obtain ⟨T17, X17, e17, st17⟩ := getF X1 hx hZ hown (host := "") (Or.inl (hw _ (List.mem_of_getElem? (i := 26) rfl))) Via.refl rfl f6 (g := (mkF m 21 #[.val (.int p0), .val (.ref bb1), .val (.int (6 : Int32)), .val (.int (0 : Int32)), .val (.ref u0)] [(.ref u0)])) rfl rfl (hb hby d1_21)
  have G18 : ∀ t, Steps p.tables e below (T17.setTop (mkF m 25 #[.val (.int p0), .val (.ref bb1), .val (.int (6 : Int32)), .val (.int (0 : Int32)), .val (.ref u0)] [(.int p0), (.int (1 : Int32))])) t → Steps p.tables e below (s₁.setTop (entryFrame m #[(.int p0)] 5)) t := by
    intro t kt
    refine G15 _ ?_
    show Steps p.tables e below (T1.setTop (mkF m 11 #[.val (.int p0), .val (.ref bb1), .val (.int (6 : Int32)), .val (.int (0 : Int32)), .unset] [(.int (6 : Int32)), (.int (0 : Int32))])) _
    refine XS.icmpNo X1.here hx rfl (hb hby d1_11) rfl (tlt (by decide)).2.1 ?_
    show Steps p.tables e below (T1.setTop (mkF m 14 #[.val (.int p0), .val (.ref bb1), .val (.int (6 : Int32)), .val (.int (0 : Int32)), .unset] [])) _
    refine XS.aloadN X1.here hx rfl (hb hby d1_14) rfl rfl ?_
    show Steps p.tables e below (T1.setTop (mkF m 15 #[.val (.int p0), .val (.ref bb1), .val (.int (6 : Int32)), .val (.int (0 : Int32)), .unset] [(.ref bb1)])) _
    refine XS.iloadN X1.here hx rfl (hb hby d1_15) rfl ?_
    show Steps p.tables e below (T1.setTop (mkF m 16 #[.val (.int p0), .val (.ref bb1), .val (.int (6 : Int32)), .val (.int (0 : Int32)), .unset] [(.int (0 : Int32)), (.ref bb1)])) _
    refine X1.aaload hx (j := (0 : Int32)) (v := (.ref u0)) Ar16.1 (State.isArrayOf_alike hZ.alike Ar16.2.1) rfl Ar16.2.2 hin16 hat16 (g := (mkF m 16 #[.val (.int p0), .val (.ref bb1), .val (.int (6 : Int32)), .val (.int (0 : Int32)), .unset] [(.int (0 : Int32)), (.ref bb1)])) rfl rfl (hb hby d1_16) _ ?_
    show Steps p.tables e below (T1.setTop (mkF m 17 #[.val (.int p0), .val (.ref bb1), .val (.int (6 : Int32)), .val (.int (0 : Int32)), .unset] [(.ref u0)])) _
    refine XS.astore X1.here hx rfl (hb hby d1_17) rfl rfl (l' := #[.val (.int p0), .val (.ref bb1), .val (.int (6 : Int32)), .val (.int (0 : Int32)), .val (.ref u0)]) rfl ?_
    show Steps p.tables e below (T1.setTop (mkF m 19 #[.val (.int p0), .val (.ref bb1), .val (.int (6 : Int32)), .val (.int (0 : Int32)), .val (.ref u0)] [])) _
    refine XS.aload X1.here hx rfl (hb hby d1_19) rfl rfl ?_
    show Steps p.tables e below (T1.setTop (mkF m 21 #[.val (.int p0), .val (.ref bb1), .val (.int (6 : Int32)), .val (.int (0 : Int32)), .val (.ref u0)] [(.ref u0)])) _
    refine st17 _ ?_
    show Steps p.tables e below (T17.setTop (mkF m 24 #[.val (.int p0), .val (.ref bb1), .val (.int (6 : Int32)), .val (.int (0 : Int32)), .val (.ref u0)] [(.int (1 : Int32))])) _
    refine XS.iloadN X17.here hx rfl (hb hby d1_24) rfl ?_
    exact kt
  by_cases hc25_19 : (1 : Int32) = p0
  · skip
    obtain ⟨fs, hr, hrun, hended, hW, hsame⟩ := X17.leave (v := some (.ref u0)) (fun h => by rw [Bd.returns] at h; cases h)
    refine ⟨_, _, G18 _ ?_, hrun, hended, _, _, rfl, ?_, ⟨_, rfl⟩, hW, hsame.mono (by decide) (by decide)⟩
    · skip
      show Steps p.tables e below (T17.setTop (mkF m 25 #[.val (.int p0), .val (.ref bb1), .val (.int (6 : Int32)), .val (.int (0 : Int32)), .val (.ref u0)] [(.int p0), (.int (1 : Int32))])) _
      refine XS.icmpNo X17.here hx rfl (hb hby d1_25) rfl (teq hc25_19).2 ?_
      show Steps p.tables e below (T17.setTop (mkF m 28 #[.val (.int p0), .val (.ref bb1), .val (.int (6 : Int32)), .val (.int (0 : Int32)), .val (.ref u0)] [])) _
      refine XS.aload X17.here hx rfl (hb hby d1_28) rfl rfl ?_
      show Steps p.tables e below (T17.setTop (mkF m 30 #[.val (.int p0), .val (.ref bb1), .val (.int (6 : Int32)), .val (.int (0 : Int32)), .val (.ref u0)] [(.ref u0)])) _
      exact retOut X17 hx Bd.returns rfl (Or.inr (Or.inr (Or.inr (Or.inr ⟨rfl, rfl, rfl⟩)))) (hb hby d1_30) hr
    · show Q1 Z p0 va kv u0 u1 u2 u3 u4 u5 h0 n0 _ T17.heap _
      rw [e17]
      exact ⟨by rw [fof, if_pos hc25_19], N1, E1⟩
  · skip
    have G20 : ∀ t, Steps p.tables e below (T17.setTop (mkF m 11 #[.val (.int p0), .val (.ref bb1), .val (.int (6 : Int32)), .val (.int (1 : Int32)), .val (.ref u0)] [(.int (6 : Int32)), (.int (1 : Int32))])) t → Steps p.tables e below (s₁.setTop (entryFrame m #[(.int p0)] 5)) t := by
      intro t kt
      refine G18 _ ?_
      show Steps p.tables e below (T17.setTop (mkF m 25 #[.val (.int p0), .val (.ref bb1), .val (.int (6 : Int32)), .val (.int (0 : Int32)), .val (.ref u0)] [(.int p0), (.int (1 : Int32))])) _
      refine XS.icmpYes X17.here hx rfl (pc0 := 25) (pc' := 31) rfl (hb hby d1_25) rfl (feq hc25_19).2 (by decide) (by decide) ?_
      show Steps p.tables e below (T17.setTop (mkF m 31 #[.val (.int p0), .val (.ref bb1), .val (.int (6 : Int32)), .val (.int (0 : Int32)), .val (.ref u0)] [])) _
      refine XS.iinc X17.here hx rfl (hb hby d1_31) rfl (l' := #[.val (.int p0), .val (.ref bb1), .val (.int (6 : Int32)), .val (.int (1 : Int32)), .val (.ref u0)]) rfl ?_
      show Steps p.tables e below (T17.setTop (mkF m 34 #[.val (.int p0), .val (.ref bb1), .val (.int (6 : Int32)), .val (.int (1 : Int32)), .val (.ref u0)] [])) _
      refine XS.goto X17.here hx rfl (pc0 := 34) (pc' := 9) rfl (hb hby d1_34) (by decide) (by decide) ?_
      show Steps p.tables e below (T17.setTop (mkF m 9 #[.val (.int p0), .val (.ref bb1), .val (.int (6 : Int32)), .val (.int (1 : Int32)), .val (.ref u0)] [])) _
      refine XS.iloadN X17.here hx rfl (hb hby d1_9) rfl ?_
      show Steps p.tables e below (T17.setTop (mkF m 10 #[.val (.int p0), .val (.ref bb1), .val (.int (6 : Int32)), .val (.int (1 : Int32)), .val (.ref u0)] [(.int (1 : Int32))])) _
      refine XS.iloadN X17.here hx rfl (hb hby d1_10) rfl ?_
      exact kt
    obtain ⟨cl21, Ar21, q21, S21, M21, H21, G21⟩ := id V1
    have hin21 : ¬ ((1 : Int32) < 0 ∨ cl21.slots.size ≤ ((1 : Int32)).toNatClampNeg) := inb_of S21 ⟨by decide, by decide⟩
    have hat21 : cl21.slots[((1 : Int32)).toNatClampNeg]? = some (.ref u1) := H21.at hin21 rfl
    obtain ⟨T22, X22, e22, st22⟩ := getF X17 hx hZ hown (host := "") (Or.inl (hw _ (List.mem_of_getElem? (i := 26) rfl))) Via.refl e17 f7 (g := (mkF m 21 #[.val (.int p0), .val (.ref bb1), .val (.int (6 : Int32)), .val (.int (1 : Int32)), .val (.ref u1)] [(.ref u1)])) rfl rfl (hb hby d1_21)
    have G23 : ∀ t, Steps p.tables e below (T22.setTop (mkF m 25 #[.val (.int p0), .val (.ref bb1), .val (.int (6 : Int32)), .val (.int (1 : Int32)), .val (.ref u1)] [(.int p0), (.int (2 : Int32))])) t → Steps p.tables e below (s₁.setTop (entryFrame m #[(.int p0)] 5)) t := by
      intro t kt
      refine G20 _ ?_
      show Steps p.tables e below (T17.setTop (mkF m 11 #[.val (.int p0), .val (.ref bb1), .val (.int (6 : Int32)), .val (.int (1 : Int32)), .val (.ref u0)] [(.int (6 : Int32)), (.int (1 : Int32))])) _
      refine XS.icmpNo X17.here hx rfl (hb hby d1_11) rfl (tlt (by decide)).2.1 ?_
      show Steps p.tables e below (T17.setTop (mkF m 14 #[.val (.int p0), .val (.ref bb1), .val (.int (6 : Int32)), .val (.int (1 : Int32)), .val (.ref u0)] [])) _
      refine XS.aloadN X17.here hx rfl (hb hby d1_14) rfl rfl ?_
      show Steps p.tables e below (T17.setTop (mkF m 15 #[.val (.int p0), .val (.ref bb1), .val (.int (6 : Int32)), .val (.int (1 : Int32)), .val (.ref u0)] [(.ref bb1)])) _
      refine XS.iloadN X17.here hx rfl (hb hby d1_15) rfl ?_
      show Steps p.tables e below (T17.setTop (mkF m 16 #[.val (.int p0), .val (.ref bb1), .val (.int (6 : Int32)), .val (.int (1 : Int32)), .val (.ref u0)] [(.int (1 : Int32)), (.ref bb1)])) _
      refine X17.aaload hx (j := (1 : Int32)) (v := (.ref u1)) (by rw [e17]; exact Ar21.1) (State.isArrayOf_alike hZ.alike Ar21.2.1) rfl Ar21.2.2 hin21 hat21 (g := (mkF m 16 #[.val (.int p0), .val (.ref bb1), .val (.int (6 : Int32)), .val (.int (1 : Int32)), .val (.ref u0)] [(.int (1 : Int32)), (.ref bb1)])) rfl rfl (hb hby d1_16) _ ?_
      show Steps p.tables e below (T17.setTop (mkF m 17 #[.val (.int p0), .val (.ref bb1), .val (.int (6 : Int32)), .val (.int (1 : Int32)), .val (.ref u0)] [(.ref u1)])) _
      refine XS.astore X17.here hx rfl (hb hby d1_17) rfl rfl (l' := #[.val (.int p0), .val (.ref bb1), .val (.int (6 : Int32)), .val (.int (1 : Int32)), .val (.ref u1)]) rfl ?_
      show Steps p.tables e below (T17.setTop (mkF m 19 #[.val (.int p0), .val (.ref bb1), .val (.int (6 : Int32)), .val (.int (1 : Int32)), .val (.ref u1)] [])) _
      refine XS.aload X17.here hx rfl (hb hby d1_19) rfl rfl ?_
      show Steps p.tables e below (T17.setTop (mkF m 21 #[.val (.int p0), .val (.ref bb1), .val (.int (6 : Int32)), .val (.int (1 : Int32)), .val (.ref u1)] [(.ref u1)])) _
      refine st22 _ ?_
      show Steps p.tables e below (T22.setTop (mkF m 24 #[.val (.int p0), .val (.ref bb1), .val (.int (6 : Int32)), .val (.int (1 : Int32)), .val (.ref u1)] [(.int (2 : Int32))])) _
      refine XS.iloadN X22.here hx rfl (hb hby d1_24) rfl ?_
      exact kt
    by_cases hc25_24 : (2 : Int32) = p0
    · skip
      obtain ⟨fs, hr, hrun, hended, hW, hsame⟩ := X22.leave (v := some (.ref u1)) (fun h => by rw [Bd.returns] at h; cases h)
      refine ⟨_, _, G23 _ ?_, hrun, hended, _, _, rfl, ?_, ⟨_, rfl⟩, hW, hsame.mono (by decide) (by decide)⟩
      · skip
        show Steps p.tables e below (T22.setTop (mkF m 25 #[.val (.int p0), .val (.ref bb1), .val (.int (6 : Int32)), .val (.int (1 : Int32)), .val (.ref u1)] [(.int p0), (.int (2 : Int32))])) _
        refine XS.icmpNo X22.here hx rfl (hb hby d1_25) rfl (teq hc25_24).2 ?_
        show Steps p.tables e below (T22.setTop (mkF m 28 #[.val (.int p0), .val (.ref bb1), .val (.int (6 : Int32)), .val (.int (1 : Int32)), .val (.ref u1)] [])) _
        refine XS.aload X22.here hx rfl (hb hby d1_28) rfl rfl ?_
        show Steps p.tables e below (T22.setTop (mkF m 30 #[.val (.int p0), .val (.ref bb1), .val (.int (6 : Int32)), .val (.int (1 : Int32)), .val (.ref u1)] [(.ref u1)])) _
        exact retOut X22 hx Bd.returns rfl (Or.inr (Or.inr (Or.inr (Or.inr ⟨rfl, rfl, rfl⟩)))) (hb hby d1_30) hr
      · show Q1 Z p0 va kv u0 u1 u2 u3 u4 u5 h0 n0 _ T22.heap _
        rw [e22]
        exact ⟨by rw [fof, if_neg hc25_19, if_pos hc25_24], N1, E1⟩
    · skip
      have G25 : ∀ t, Steps p.tables e below (T22.setTop (mkF m 11 #[.val (.int p0), .val (.ref bb1), .val (.int (6 : Int32)), .val (.int (2 : Int32)), .val (.ref u1)] [(.int (6 : Int32)), (.int (2 : Int32))])) t → Steps p.tables e below (s₁.setTop (entryFrame m #[(.int p0)] 5)) t := by
        intro t kt
        refine G23 _ ?_
        show Steps p.tables e below (T22.setTop (mkF m 25 #[.val (.int p0), .val (.ref bb1), .val (.int (6 : Int32)), .val (.int (1 : Int32)), .val (.ref u1)] [(.int p0), (.int (2 : Int32))])) _
        refine XS.icmpYes X22.here hx rfl (pc0 := 25) (pc' := 31) rfl (hb hby d1_25) rfl (feq hc25_24).2 (by decide) (by decide) ?_
        show Steps p.tables e below (T22.setTop (mkF m 31 #[.val (.int p0), .val (.ref bb1), .val (.int (6 : Int32)), .val (.int (1 : Int32)), .val (.ref u1)] [])) _
        refine XS.iinc X22.here hx rfl (hb hby d1_31) rfl (l' := #[.val (.int p0), .val (.ref bb1), .val (.int (6 : Int32)), .val (.int (2 : Int32)), .val (.ref u1)]) rfl ?_
        show Steps p.tables e below (T22.setTop (mkF m 34 #[.val (.int p0), .val (.ref bb1), .val (.int (6 : Int32)), .val (.int (2 : Int32)), .val (.ref u1)] [])) _
        refine XS.goto X22.here hx rfl (pc0 := 34) (pc' := 9) rfl (hb hby d1_34) (by decide) (by decide) ?_
        show Steps p.tables e below (T22.setTop (mkF m 9 #[.val (.int p0), .val (.ref bb1), .val (.int (6 : Int32)), .val (.int (2 : Int32)), .val (.ref u1)] [])) _
        refine XS.iloadN X22.here hx rfl (hb hby d1_9) rfl ?_
        show Steps p.tables e below (T22.setTop (mkF m 10 #[.val (.int p0), .val (.ref bb1), .val (.int (6 : Int32)), .val (.int (2 : Int32)), .val (.ref u1)] [(.int (2 : Int32))])) _
        refine XS.iloadN X22.here hx rfl (hb hby d1_10) rfl ?_
        exact kt
      obtain ⟨cl26, Ar26, q26, S26, M26, H26, G26⟩ := id V1
      have hin26 : ¬ ((2 : Int32) < 0 ∨ cl26.slots.size ≤ ((2 : Int32)).toNatClampNeg) := inb_of S26 ⟨by decide, by decide⟩
      have hat26 : cl26.slots[((2 : Int32)).toNatClampNeg]? = some (.ref u2) := H26.at hin26 rfl
      obtain ⟨T27, X27, e27, st27⟩ := getF X22 hx hZ hown (host := "") (Or.inl (hw _ (List.mem_of_getElem? (i := 26) rfl))) Via.refl e22 f8 (g := (mkF m 21 #[.val (.int p0), .val (.ref bb1), .val (.int (6 : Int32)), .val (.int (2 : Int32)), .val (.ref u2)] [(.ref u2)])) rfl rfl (hb hby d1_21)
      have G28 : ∀ t, Steps p.tables e below (T27.setTop (mkF m 25 #[.val (.int p0), .val (.ref bb1), .val (.int (6 : Int32)), .val (.int (2 : Int32)), .val (.ref u2)] [(.int p0), (.int (3 : Int32))])) t → Steps p.tables e below (s₁.setTop (entryFrame m #[(.int p0)] 5)) t := by
        intro t kt
        refine G25 _ ?_
        show Steps p.tables e below (T22.setTop (mkF m 11 #[.val (.int p0), .val (.ref bb1), .val (.int (6 : Int32)), .val (.int (2 : Int32)), .val (.ref u1)] [(.int (6 : Int32)), (.int (2 : Int32))])) _
        refine XS.icmpNo X22.here hx rfl (hb hby d1_11) rfl (tlt (by decide)).2.1 ?_
        show Steps p.tables e below (T22.setTop (mkF m 14 #[.val (.int p0), .val (.ref bb1), .val (.int (6 : Int32)), .val (.int (2 : Int32)), .val (.ref u1)] [])) _
        refine XS.aloadN X22.here hx rfl (hb hby d1_14) rfl rfl ?_
        show Steps p.tables e below (T22.setTop (mkF m 15 #[.val (.int p0), .val (.ref bb1), .val (.int (6 : Int32)), .val (.int (2 : Int32)), .val (.ref u1)] [(.ref bb1)])) _
        refine XS.iloadN X22.here hx rfl (hb hby d1_15) rfl ?_
        show Steps p.tables e below (T22.setTop (mkF m 16 #[.val (.int p0), .val (.ref bb1), .val (.int (6 : Int32)), .val (.int (2 : Int32)), .val (.ref u1)] [(.int (2 : Int32)), (.ref bb1)])) _
        refine X22.aaload hx (j := (2 : Int32)) (v := (.ref u2)) (by rw [e22]; exact Ar26.1) (State.isArrayOf_alike hZ.alike Ar26.2.1) rfl Ar26.2.2 hin26 hat26 (g := (mkF m 16 #[.val (.int p0), .val (.ref bb1), .val (.int (6 : Int32)), .val (.int (2 : Int32)), .val (.ref u1)] [(.int (2 : Int32)), (.ref bb1)])) rfl rfl (hb hby d1_16) _ ?_
        show Steps p.tables e below (T22.setTop (mkF m 17 #[.val (.int p0), .val (.ref bb1), .val (.int (6 : Int32)), .val (.int (2 : Int32)), .val (.ref u1)] [(.ref u2)])) _
        refine XS.astore X22.here hx rfl (hb hby d1_17) rfl rfl (l' := #[.val (.int p0), .val (.ref bb1), .val (.int (6 : Int32)), .val (.int (2 : Int32)), .val (.ref u2)]) rfl ?_
        show Steps p.tables e below (T22.setTop (mkF m 19 #[.val (.int p0), .val (.ref bb1), .val (.int (6 : Int32)), .val (.int (2 : Int32)), .val (.ref u2)] [])) _
        refine XS.aload X22.here hx rfl (hb hby d1_19) rfl rfl ?_
        show Steps p.tables e below (T22.setTop (mkF m 21 #[.val (.int p0), .val (.ref bb1), .val (.int (6 : Int32)), .val (.int (2 : Int32)), .val (.ref u2)] [(.ref u2)])) _
        refine st27 _ ?_
        show Steps p.tables e below (T27.setTop (mkF m 24 #[.val (.int p0), .val (.ref bb1), .val (.int (6 : Int32)), .val (.int (2 : Int32)), .val (.ref u2)] [(.int (3 : Int32))])) _
        refine XS.iloadN X27.here hx rfl (hb hby d1_24) rfl ?_
        exact kt
      by_cases hc25_29 : (3 : Int32) = p0
      · skip
        obtain ⟨fs, hr, hrun, hended, hW, hsame⟩ := X27.leave (v := some (.ref u2)) (fun h => by rw [Bd.returns] at h; cases h)
        refine ⟨_, _, G28 _ ?_, hrun, hended, _, _, rfl, ?_, ⟨_, rfl⟩, hW, hsame.mono (by decide) (by decide)⟩
        · skip
          show Steps p.tables e below (T27.setTop (mkF m 25 #[.val (.int p0), .val (.ref bb1), .val (.int (6 : Int32)), .val (.int (2 : Int32)), .val (.ref u2)] [(.int p0), (.int (3 : Int32))])) _
          refine XS.icmpNo X27.here hx rfl (hb hby d1_25) rfl (teq hc25_29).2 ?_
          show Steps p.tables e below (T27.setTop (mkF m 28 #[.val (.int p0), .val (.ref bb1), .val (.int (6 : Int32)), .val (.int (2 : Int32)), .val (.ref u2)] [])) _
          refine XS.aload X27.here hx rfl (hb hby d1_28) rfl rfl ?_
          show Steps p.tables e below (T27.setTop (mkF m 30 #[.val (.int p0), .val (.ref bb1), .val (.int (6 : Int32)), .val (.int (2 : Int32)), .val (.ref u2)] [(.ref u2)])) _
          exact retOut X27 hx Bd.returns rfl (Or.inr (Or.inr (Or.inr (Or.inr ⟨rfl, rfl, rfl⟩)))) (hb hby d1_30) hr
        · show Q1 Z p0 va kv u0 u1 u2 u3 u4 u5 h0 n0 _ T27.heap _
          rw [e27]
          exact ⟨by rw [fof, if_neg hc25_19, if_neg hc25_24, if_pos hc25_29], N1, E1⟩
      · skip
        have G30 : ∀ t, Steps p.tables e below (T27.setTop (mkF m 11 #[.val (.int p0), .val (.ref bb1), .val (.int (6 : Int32)), .val (.int (3 : Int32)), .val (.ref u2)] [(.int (6 : Int32)), (.int (3 : Int32))])) t → Steps p.tables e below (s₁.setTop (entryFrame m #[(.int p0)] 5)) t := by
          intro t kt
          refine G28 _ ?_
          show Steps p.tables e below (T27.setTop (mkF m 25 #[.val (.int p0), .val (.ref bb1), .val (.int (6 : Int32)), .val (.int (2 : Int32)), .val (.ref u2)] [(.int p0), (.int (3 : Int32))])) _
          refine XS.icmpYes X27.here hx rfl (pc0 := 25) (pc' := 31) rfl (hb hby d1_25) rfl (feq hc25_29).2 (by decide) (by decide) ?_
          show Steps p.tables e below (T27.setTop (mkF m 31 #[.val (.int p0), .val (.ref bb1), .val (.int (6 : Int32)), .val (.int (2 : Int32)), .val (.ref u2)] [])) _
          refine XS.iinc X27.here hx rfl (hb hby d1_31) rfl (l' := #[.val (.int p0), .val (.ref bb1), .val (.int (6 : Int32)), .val (.int (3 : Int32)), .val (.ref u2)]) rfl ?_
          show Steps p.tables e below (T27.setTop (mkF m 34 #[.val (.int p0), .val (.ref bb1), .val (.int (6 : Int32)), .val (.int (3 : Int32)), .val (.ref u2)] [])) _
          refine XS.goto X27.here hx rfl (pc0 := 34) (pc' := 9) rfl (hb hby d1_34) (by decide) (by decide) ?_
          show Steps p.tables e below (T27.setTop (mkF m 9 #[.val (.int p0), .val (.ref bb1), .val (.int (6 : Int32)), .val (.int (3 : Int32)), .val (.ref u2)] [])) _
          refine XS.iloadN X27.here hx rfl (hb hby d1_9) rfl ?_
          show Steps p.tables e below (T27.setTop (mkF m 10 #[.val (.int p0), .val (.ref bb1), .val (.int (6 : Int32)), .val (.int (3 : Int32)), .val (.ref u2)] [(.int (3 : Int32))])) _
          refine XS.iloadN X27.here hx rfl (hb hby d1_10) rfl ?_
          exact kt
        obtain ⟨cl31, Ar31, q31, S31, M31, H31, G31⟩ := id V1
        have hin31 : ¬ ((3 : Int32) < 0 ∨ cl31.slots.size ≤ ((3 : Int32)).toNatClampNeg) := inb_of S31 ⟨by decide, by decide⟩
        have hat31 : cl31.slots[((3 : Int32)).toNatClampNeg]? = some (.ref u3) := H31.at hin31 rfl
        obtain ⟨T32, X32, e32, st32⟩ := getF X27 hx hZ hown (host := "") (Or.inl (hw _ (List.mem_of_getElem? (i := 26) rfl))) Via.refl e27 f9 (g := (mkF m 21 #[.val (.int p0), .val (.ref bb1), .val (.int (6 : Int32)), .val (.int (3 : Int32)), .val (.ref u3)] [(.ref u3)])) rfl rfl (hb hby d1_21)
        have G33 : ∀ t, Steps p.tables e below (T32.setTop (mkF m 25 #[.val (.int p0), .val (.ref bb1), .val (.int (6 : Int32)), .val (.int (3 : Int32)), .val (.ref u3)] [(.int p0), (.int (4 : Int32))])) t → Steps p.tables e below (s₁.setTop (entryFrame m #[(.int p0)] 5)) t := by
          intro t kt
          refine G30 _ ?_
          show Steps p.tables e below (T27.setTop (mkF m 11 #[.val (.int p0), .val (.ref bb1), .val (.int (6 : Int32)), .val (.int (3 : Int32)), .val (.ref u2)] [(.int (6 : Int32)), (.int (3 : Int32))])) _
          refine XS.icmpNo X27.here hx rfl (hb hby d1_11) rfl (tlt (by decide)).2.1 ?_
          show Steps p.tables e below (T27.setTop (mkF m 14 #[.val (.int p0), .val (.ref bb1), .val (.int (6 : Int32)), .val (.int (3 : Int32)), .val (.ref u2)] [])) _
          refine XS.aloadN X27.here hx rfl (hb hby d1_14) rfl rfl ?_
          show Steps p.tables e below (T27.setTop (mkF m 15 #[.val (.int p0), .val (.ref bb1), .val (.int (6 : Int32)), .val (.int (3 : Int32)), .val (.ref u2)] [(.ref bb1)])) _
          refine XS.iloadN X27.here hx rfl (hb hby d1_15) rfl ?_
          show Steps p.tables e below (T27.setTop (mkF m 16 #[.val (.int p0), .val (.ref bb1), .val (.int (6 : Int32)), .val (.int (3 : Int32)), .val (.ref u2)] [(.int (3 : Int32)), (.ref bb1)])) _
          refine X27.aaload hx (j := (3 : Int32)) (v := (.ref u3)) (by rw [e27]; exact Ar31.1) (State.isArrayOf_alike hZ.alike Ar31.2.1) rfl Ar31.2.2 hin31 hat31 (g := (mkF m 16 #[.val (.int p0), .val (.ref bb1), .val (.int (6 : Int32)), .val (.int (3 : Int32)), .val (.ref u2)] [(.int (3 : Int32)), (.ref bb1)])) rfl rfl (hb hby d1_16) _ ?_
          show Steps p.tables e below (T27.setTop (mkF m 17 #[.val (.int p0), .val (.ref bb1), .val (.int (6 : Int32)), .val (.int (3 : Int32)), .val (.ref u2)] [(.ref u3)])) _
          refine XS.astore X27.here hx rfl (hb hby d1_17) rfl rfl (l' := #[.val (.int p0), .val (.ref bb1), .val (.int (6 : Int32)), .val (.int (3 : Int32)), .val (.ref u3)]) rfl ?_
          show Steps p.tables e below (T27.setTop (mkF m 19 #[.val (.int p0), .val (.ref bb1), .val (.int (6 : Int32)), .val (.int (3 : Int32)), .val (.ref u3)] [])) _
          refine XS.aload X27.here hx rfl (hb hby d1_19) rfl rfl ?_
          show Steps p.tables e below (T27.setTop (mkF m 21 #[.val (.int p0), .val (.ref bb1), .val (.int (6 : Int32)), .val (.int (3 : Int32)), .val (.ref u3)] [(.ref u3)])) _
          refine st32 _ ?_
          show Steps p.tables e below (T32.setTop (mkF m 24 #[.val (.int p0), .val (.ref bb1), .val (.int (6 : Int32)), .val (.int (3 : Int32)), .val (.ref u3)] [(.int (4 : Int32))])) _
          refine XS.iloadN X32.here hx rfl (hb hby d1_24) rfl ?_
          exact kt
        by_cases hc25_34 : (4 : Int32) = p0
        · skip
          obtain ⟨fs, hr, hrun, hended, hW, hsame⟩ := X32.leave (v := some (.ref u3)) (fun h => by rw [Bd.returns] at h; cases h)
          refine ⟨_, _, G33 _ ?_, hrun, hended, _, _, rfl, ?_, ⟨_, rfl⟩, hW, hsame.mono (by decide) (by decide)⟩
          · skip
            show Steps p.tables e below (T32.setTop (mkF m 25 #[.val (.int p0), .val (.ref bb1), .val (.int (6 : Int32)), .val (.int (3 : Int32)), .val (.ref u3)] [(.int p0), (.int (4 : Int32))])) _
            refine XS.icmpNo X32.here hx rfl (hb hby d1_25) rfl (teq hc25_34).2 ?_
            show Steps p.tables e below (T32.setTop (mkF m 28 #[.val (.int p0), .val (.ref bb1), .val (.int (6 : Int32)), .val (.int (3 : Int32)), .val (.ref u3)] [])) _
            refine XS.aload X32.here hx rfl (hb hby d1_28) rfl rfl ?_
            show Steps p.tables e below (T32.setTop (mkF m 30 #[.val (.int p0), .val (.ref bb1), .val (.int (6 : Int32)), .val (.int (3 : Int32)), .val (.ref u3)] [(.ref u3)])) _
            exact retOut X32 hx Bd.returns rfl (Or.inr (Or.inr (Or.inr (Or.inr ⟨rfl, rfl, rfl⟩)))) (hb hby d1_30) hr
          · show Q1 Z p0 va kv u0 u1 u2 u3 u4 u5 h0 n0 _ T32.heap _
            rw [e32]
            exact ⟨by rw [fof, if_neg hc25_19, if_neg hc25_24, if_neg hc25_29, if_pos hc25_34], N1, E1⟩
        · skip
          have G35 : ∀ t, Steps p.tables e below (T32.setTop (mkF m 11 #[.val (.int p0), .val (.ref bb1), .val (.int (6 : Int32)), .val (.int (4 : Int32)), .val (.ref u3)] [(.int (6 : Int32)), (.int (4 : Int32))])) t → Steps p.tables e below (s₁.setTop (entryFrame m #[(.int p0)] 5)) t := by
            intro t kt
            refine G33 _ ?_
            show Steps p.tables e below (T32.setTop (mkF m 25 #[.val (.int p0), .val (.ref bb1), .val (.int (6 : Int32)), .val (.int (3 : Int32)), .val (.ref u3)] [(.int p0), (.int (4 : Int32))])) _
            refine XS.icmpYes X32.here hx rfl (pc0 := 25) (pc' := 31) rfl (hb hby d1_25) rfl (feq hc25_34).2 (by decide) (by decide) ?_
            show Steps p.tables e below (T32.setTop (mkF m 31 #[.val (.int p0), .val (.ref bb1), .val (.int (6 : Int32)), .val (.int (3 : Int32)), .val (.ref u3)] [])) _
            refine XS.iinc X32.here hx rfl (hb hby d1_31) rfl (l' := #[.val (.int p0), .val (.ref bb1), .val (.int (6 : Int32)), .val (.int (4 : Int32)), .val (.ref u3)]) rfl ?_
            show Steps p.tables e below (T32.setTop (mkF m 34 #[.val (.int p0), .val (.ref bb1), .val (.int (6 : Int32)), .val (.int (4 : Int32)), .val (.ref u3)] [])) _
            refine XS.goto X32.here hx rfl (pc0 := 34) (pc' := 9) rfl (hb hby d1_34) (by decide) (by decide) ?_
            show Steps p.tables e below (T32.setTop (mkF m 9 #[.val (.int p0), .val (.ref bb1), .val (.int (6 : Int32)), .val (.int (4 : Int32)), .val (.ref u3)] [])) _
            refine XS.iloadN X32.here hx rfl (hb hby d1_9) rfl ?_
            show Steps p.tables e below (T32.setTop (mkF m 10 #[.val (.int p0), .val (.ref bb1), .val (.int (6 : Int32)), .val (.int (4 : Int32)), .val (.ref u3)] [(.int (4 : Int32))])) _
            refine XS.iloadN X32.here hx rfl (hb hby d1_10) rfl ?_
            exact kt
          obtain ⟨cl36, Ar36, q36, S36, M36, H36, G36⟩ := id V1
          have hin36 : ¬ ((4 : Int32) < 0 ∨ cl36.slots.size ≤ ((4 : Int32)).toNatClampNeg) := inb_of S36 ⟨by decide, by decide⟩
          have hat36 : cl36.slots[((4 : Int32)).toNatClampNeg]? = some (.ref u4) := H36.at hin36 rfl
          obtain ⟨T37, X37, e37, st37⟩ := getF X32 hx hZ hown (host := "") (Or.inl (hw _ (List.mem_of_getElem? (i := 26) rfl))) Via.refl e32 f10 (g := (mkF m 21 #[.val (.int p0), .val (.ref bb1), .val (.int (6 : Int32)), .val (.int (4 : Int32)), .val (.ref u4)] [(.ref u4)])) rfl rfl (hb hby d1_21)
          have G38 : ∀ t, Steps p.tables e below (T37.setTop (mkF m 25 #[.val (.int p0), .val (.ref bb1), .val (.int (6 : Int32)), .val (.int (4 : Int32)), .val (.ref u4)] [(.int p0), (.int (5 : Int32))])) t → Steps p.tables e below (s₁.setTop (entryFrame m #[(.int p0)] 5)) t := by
            intro t kt
            refine G35 _ ?_
            show Steps p.tables e below (T32.setTop (mkF m 11 #[.val (.int p0), .val (.ref bb1), .val (.int (6 : Int32)), .val (.int (4 : Int32)), .val (.ref u3)] [(.int (6 : Int32)), (.int (4 : Int32))])) _
            refine XS.icmpNo X32.here hx rfl (hb hby d1_11) rfl (tlt (by decide)).2.1 ?_
            show Steps p.tables e below (T32.setTop (mkF m 14 #[.val (.int p0), .val (.ref bb1), .val (.int (6 : Int32)), .val (.int (4 : Int32)), .val (.ref u3)] [])) _
            refine XS.aloadN X32.here hx rfl (hb hby d1_14) rfl rfl ?_
            show Steps p.tables e below (T32.setTop (mkF m 15 #[.val (.int p0), .val (.ref bb1), .val (.int (6 : Int32)), .val (.int (4 : Int32)), .val (.ref u3)] [(.ref bb1)])) _
            refine XS.iloadN X32.here hx rfl (hb hby d1_15) rfl ?_
            show Steps p.tables e below (T32.setTop (mkF m 16 #[.val (.int p0), .val (.ref bb1), .val (.int (6 : Int32)), .val (.int (4 : Int32)), .val (.ref u3)] [(.int (4 : Int32)), (.ref bb1)])) _
            refine X32.aaload hx (j := (4 : Int32)) (v := (.ref u4)) (by rw [e32]; exact Ar36.1) (State.isArrayOf_alike hZ.alike Ar36.2.1) rfl Ar36.2.2 hin36 hat36 (g := (mkF m 16 #[.val (.int p0), .val (.ref bb1), .val (.int (6 : Int32)), .val (.int (4 : Int32)), .val (.ref u3)] [(.int (4 : Int32)), (.ref bb1)])) rfl rfl (hb hby d1_16) _ ?_
            show Steps p.tables e below (T32.setTop (mkF m 17 #[.val (.int p0), .val (.ref bb1), .val (.int (6 : Int32)), .val (.int (4 : Int32)), .val (.ref u3)] [(.ref u4)])) _
            refine XS.astore X32.here hx rfl (hb hby d1_17) rfl rfl (l' := #[.val (.int p0), .val (.ref bb1), .val (.int (6 : Int32)), .val (.int (4 : Int32)), .val (.ref u4)]) rfl ?_
            show Steps p.tables e below (T32.setTop (mkF m 19 #[.val (.int p0), .val (.ref bb1), .val (.int (6 : Int32)), .val (.int (4 : Int32)), .val (.ref u4)] [])) _
            refine XS.aload X32.here hx rfl (hb hby d1_19) rfl rfl ?_
            show Steps p.tables e below (T32.setTop (mkF m 21 #[.val (.int p0), .val (.ref bb1), .val (.int (6 : Int32)), .val (.int (4 : Int32)), .val (.ref u4)] [(.ref u4)])) _
            refine st37 _ ?_
            show Steps p.tables e below (T37.setTop (mkF m 24 #[.val (.int p0), .val (.ref bb1), .val (.int (6 : Int32)), .val (.int (4 : Int32)), .val (.ref u4)] [(.int (5 : Int32))])) _
            refine XS.iloadN X37.here hx rfl (hb hby d1_24) rfl ?_
            exact kt
          by_cases hc25_39 : (5 : Int32) = p0
          · skip
            obtain ⟨fs, hr, hrun, hended, hW, hsame⟩ := X37.leave (v := some (.ref u4)) (fun h => by rw [Bd.returns] at h; cases h)
            refine ⟨_, _, G38 _ ?_, hrun, hended, _, _, rfl, ?_, ⟨_, rfl⟩, hW, hsame.mono (by decide) (by decide)⟩
            · skip
              show Steps p.tables e below (T37.setTop (mkF m 25 #[.val (.int p0), .val (.ref bb1), .val (.int (6 : Int32)), .val (.int (4 : Int32)), .val (.ref u4)] [(.int p0), (.int (5 : Int32))])) _
              refine XS.icmpNo X37.here hx rfl (hb hby d1_25) rfl (teq hc25_39).2 ?_
              show Steps p.tables e below (T37.setTop (mkF m 28 #[.val (.int p0), .val (.ref bb1), .val (.int (6 : Int32)), .val (.int (4 : Int32)), .val (.ref u4)] [])) _
              refine XS.aload X37.here hx rfl (hb hby d1_28) rfl rfl ?_
              show Steps p.tables e below (T37.setTop (mkF m 30 #[.val (.int p0), .val (.ref bb1), .val (.int (6 : Int32)), .val (.int (4 : Int32)), .val (.ref u4)] [(.ref u4)])) _
              exact retOut X37 hx Bd.returns rfl (Or.inr (Or.inr (Or.inr (Or.inr ⟨rfl, rfl, rfl⟩)))) (hb hby d1_30) hr
            · show Q1 Z p0 va kv u0 u1 u2 u3 u4 u5 h0 n0 _ T37.heap _
              rw [e37]
              exact ⟨by rw [fof, if_neg hc25_19, if_neg hc25_24, if_neg hc25_29, if_neg hc25_34, if_pos hc25_39], N1, E1⟩
          · skip
            have G40 : ∀ t, Steps p.tables e below (T37.setTop (mkF m 11 #[.val (.int p0), .val (.ref bb1), .val (.int (6 : Int32)), .val (.int (5 : Int32)), .val (.ref u4)] [(.int (6 : Int32)), (.int (5 : Int32))])) t → Steps p.tables e below (s₁.setTop (entryFrame m #[(.int p0)] 5)) t := by
              intro t kt
              refine G38 _ ?_
              show Steps p.tables e below (T37.setTop (mkF m 25 #[.val (.int p0), .val (.ref bb1), .val (.int (6 : Int32)), .val (.int (4 : Int32)), .val (.ref u4)] [(.int p0), (.int (5 : Int32))])) _
              refine XS.icmpYes X37.here hx rfl (pc0 := 25) (pc' := 31) rfl (hb hby d1_25) rfl (feq hc25_39).2 (by decide) (by decide) ?_
              show Steps p.tables e below (T37.setTop (mkF m 31 #[.val (.int p0), .val (.ref bb1), .val (.int (6 : Int32)), .val (.int (4 : Int32)), .val (.ref u4)] [])) _
              refine XS.iinc X37.here hx rfl (hb hby d1_31) rfl (l' := #[.val (.int p0), .val (.ref bb1), .val (.int (6 : Int32)), .val (.int (5 : Int32)), .val (.ref u4)]) rfl ?_
              show Steps p.tables e below (T37.setTop (mkF m 34 #[.val (.int p0), .val (.ref bb1), .val (.int (6 : Int32)), .val (.int (5 : Int32)), .val (.ref u4)] [])) _
              refine XS.goto X37.here hx rfl (pc0 := 34) (pc' := 9) rfl (hb hby d1_34) (by decide) (by decide) ?_
              show Steps p.tables e below (T37.setTop (mkF m 9 #[.val (.int p0), .val (.ref bb1), .val (.int (6 : Int32)), .val (.int (5 : Int32)), .val (.ref u4)] [])) _
              refine XS.iloadN X37.here hx rfl (hb hby d1_9) rfl ?_
              show Steps p.tables e below (T37.setTop (mkF m 10 #[.val (.int p0), .val (.ref bb1), .val (.int (6 : Int32)), .val (.int (5 : Int32)), .val (.ref u4)] [(.int (5 : Int32))])) _
              refine XS.iloadN X37.here hx rfl (hb hby d1_10) rfl ?_
              exact kt
            obtain ⟨cl41, Ar41, q41, S41, M41, H41, G41⟩ := id V1
            have hin41 : ¬ ((5 : Int32) < 0 ∨ cl41.slots.size ≤ ((5 : Int32)).toNatClampNeg) := inb_of S41 ⟨by decide, by decide⟩
            have hat41 : cl41.slots[((5 : Int32)).toNatClampNeg]? = some (.ref u5) := H41.at hin41 rfl
            obtain ⟨T42, X42, e42, st42⟩ := getF X37 hx hZ hown (host := "") (Or.inl (hw _ (List.mem_of_getElem? (i := 26) rfl))) Via.refl e37 f11 (g := (mkF m 21 #[.val (.int p0), .val (.ref bb1), .val (.int (6 : Int32)), .val (.int (5 : Int32)), .val (.ref u5)] [(.ref u5)])) rfl rfl (hb hby d1_21)
            have G43 : ∀ t, Steps p.tables e below (T42.setTop (mkF m 25 #[.val (.int p0), .val (.ref bb1), .val (.int (6 : Int32)), .val (.int (5 : Int32)), .val (.ref u5)] [(.int p0), (.int (0 : Int32))])) t → Steps p.tables e below (s₁.setTop (entryFrame m #[(.int p0)] 5)) t := by
              intro t kt
              refine G40 _ ?_
              show Steps p.tables e below (T37.setTop (mkF m 11 #[.val (.int p0), .val (.ref bb1), .val (.int (6 : Int32)), .val (.int (5 : Int32)), .val (.ref u4)] [(.int (6 : Int32)), (.int (5 : Int32))])) _
              refine XS.icmpNo X37.here hx rfl (hb hby d1_11) rfl (tlt (by decide)).2.1 ?_
              show Steps p.tables e below (T37.setTop (mkF m 14 #[.val (.int p0), .val (.ref bb1), .val (.int (6 : Int32)), .val (.int (5 : Int32)), .val (.ref u4)] [])) _
              refine XS.aloadN X37.here hx rfl (hb hby d1_14) rfl rfl ?_
              show Steps p.tables e below (T37.setTop (mkF m 15 #[.val (.int p0), .val (.ref bb1), .val (.int (6 : Int32)), .val (.int (5 : Int32)), .val (.ref u4)] [(.ref bb1)])) _
              refine XS.iloadN X37.here hx rfl (hb hby d1_15) rfl ?_
              show Steps p.tables e below (T37.setTop (mkF m 16 #[.val (.int p0), .val (.ref bb1), .val (.int (6 : Int32)), .val (.int (5 : Int32)), .val (.ref u4)] [(.int (5 : Int32)), (.ref bb1)])) _
              refine X37.aaload hx (j := (5 : Int32)) (v := (.ref u5)) (by rw [e37]; exact Ar41.1) (State.isArrayOf_alike hZ.alike Ar41.2.1) rfl Ar41.2.2 hin41 hat41 (g := (mkF m 16 #[.val (.int p0), .val (.ref bb1), .val (.int (6 : Int32)), .val (.int (5 : Int32)), .val (.ref u4)] [(.int (5 : Int32)), (.ref bb1)])) rfl rfl (hb hby d1_16) _ ?_
              show Steps p.tables e below (T37.setTop (mkF m 17 #[.val (.int p0), .val (.ref bb1), .val (.int (6 : Int32)), .val (.int (5 : Int32)), .val (.ref u4)] [(.ref u5)])) _
              refine XS.astore X37.here hx rfl (hb hby d1_17) rfl rfl (l' := #[.val (.int p0), .val (.ref bb1), .val (.int (6 : Int32)), .val (.int (5 : Int32)), .val (.ref u5)]) rfl ?_
              show Steps p.tables e below (T37.setTop (mkF m 19 #[.val (.int p0), .val (.ref bb1), .val (.int (6 : Int32)), .val (.int (5 : Int32)), .val (.ref u5)] [])) _
              refine XS.aload X37.here hx rfl (hb hby d1_19) rfl rfl ?_
              show Steps p.tables e below (T37.setTop (mkF m 21 #[.val (.int p0), .val (.ref bb1), .val (.int (6 : Int32)), .val (.int (5 : Int32)), .val (.ref u5)] [(.ref u5)])) _
              refine st42 _ ?_
              show Steps p.tables e below (T42.setTop (mkF m 24 #[.val (.int p0), .val (.ref bb1), .val (.int (6 : Int32)), .val (.int (5 : Int32)), .val (.ref u5)] [(.int (0 : Int32))])) _
              refine XS.iloadN X42.here hx rfl (hb hby d1_24) rfl ?_
              exact kt
            by_cases hc25_44 : (0 : Int32) = p0
            · skip
              obtain ⟨fs, hr, hrun, hended, hW, hsame⟩ := X42.leave (v := some (.ref u5)) (fun h => by rw [Bd.returns] at h; cases h)
              refine ⟨_, _, G43 _ ?_, hrun, hended, _, _, rfl, ?_, ⟨_, rfl⟩, hW, hsame.mono (by decide) (by decide)⟩
              · skip
                show Steps p.tables e below (T42.setTop (mkF m 25 #[.val (.int p0), .val (.ref bb1), .val (.int (6 : Int32)), .val (.int (5 : Int32)), .val (.ref u5)] [(.int p0), (.int (0 : Int32))])) _
                refine XS.icmpNo X42.here hx rfl (hb hby d1_25) rfl (teq hc25_44).2 ?_
                show Steps p.tables e below (T42.setTop (mkF m 28 #[.val (.int p0), .val (.ref bb1), .val (.int (6 : Int32)), .val (.int (5 : Int32)), .val (.ref u5)] [])) _
                refine XS.aload X42.here hx rfl (hb hby d1_28) rfl rfl ?_
                show Steps p.tables e below (T42.setTop (mkF m 30 #[.val (.int p0), .val (.ref bb1), .val (.int (6 : Int32)), .val (.int (5 : Int32)), .val (.ref u5)] [(.ref u5)])) _
                exact retOut X42 hx Bd.returns rfl (Or.inr (Or.inr (Or.inr (Or.inr ⟨rfl, rfl, rfl⟩)))) (hb hby d1_30) hr
              · show Q1 Z p0 va kv u0 u1 u2 u3 u4 u5 h0 n0 _ T42.heap _
                rw [e42]
                exact ⟨by rw [fof, if_neg hc25_19, if_neg hc25_24, if_neg hc25_29, if_neg hc25_34, if_neg hc25_39, if_pos hc25_44], N1, E1⟩
            · skip
              have G45 : ∀ t, Steps p.tables e below (T42.setTop (mkF m 11 #[.val (.int p0), .val (.ref bb1), .val (.int (6 : Int32)), .val (.int (6 : Int32)), .val (.ref u5)] [(.int (6 : Int32)), (.int (6 : Int32))])) t → Steps p.tables e below (s₁.setTop (entryFrame m #[(.int p0)] 5)) t := by
                intro t kt
                refine G43 _ ?_
                show Steps p.tables e below (T42.setTop (mkF m 25 #[.val (.int p0), .val (.ref bb1), .val (.int (6 : Int32)), .val (.int (5 : Int32)), .val (.ref u5)] [(.int p0), (.int (0 : Int32))])) _
                refine XS.icmpYes X42.here hx rfl (pc0 := 25) (pc' := 31) rfl (hb hby d1_25) rfl (feq hc25_44).2 (by decide) (by decide) ?_
                show Steps p.tables e below (T42.setTop (mkF m 31 #[.val (.int p0), .val (.ref bb1), .val (.int (6 : Int32)), .val (.int (5 : Int32)), .val (.ref u5)] [])) _
                refine XS.iinc X42.here hx rfl (hb hby d1_31) rfl (l' := #[.val (.int p0), .val (.ref bb1), .val (.int (6 : Int32)), .val (.int (6 : Int32)), .val (.ref u5)]) rfl ?_
                show Steps p.tables e below (T42.setTop (mkF m 34 #[.val (.int p0), .val (.ref bb1), .val (.int (6 : Int32)), .val (.int (6 : Int32)), .val (.ref u5)] [])) _
                refine XS.goto X42.here hx rfl (pc0 := 34) (pc' := 9) rfl (hb hby d1_34) (by decide) (by decide) ?_
                show Steps p.tables e below (T42.setTop (mkF m 9 #[.val (.int p0), .val (.ref bb1), .val (.int (6 : Int32)), .val (.int (6 : Int32)), .val (.ref u5)] [])) _
                refine XS.iloadN X42.here hx rfl (hb hby d1_9) rfl ?_
                show Steps p.tables e below (T42.setTop (mkF m 10 #[.val (.int p0), .val (.ref bb1), .val (.int (6 : Int32)), .val (.int (6 : Int32)), .val (.ref u5)] [(.int (6 : Int32))])) _
                refine XS.iloadN X42.here hx rfl (hb hby d1_10) rfl ?_
                exact kt
              obtain ⟨T46, X46, e46, st46⟩ := getS2 X42 hx hZ hown (host := "") (Or.inl (hw _ (List.mem_of_getElem? (i := 29) rfl))) Via.refl e42 f5 (g := (mkF m 37 #[.val (.int p0), .val (.ref bb1), .val (.int (6 : Int32)), .val (.int (6 : Int32)), .val (.ref u5)] [])) rfl (hb hby d1_37)
              obtain ⟨fs, hr, hrun, hended, hW, hsame⟩ := X46.leave (v := some (.ref u5)) (fun h => by rw [Bd.returns] at h; cases h)
              refine ⟨_, _, G45 _ ?_, hrun, hended, _, _, rfl, ?_, ⟨_, rfl⟩, hW, hsame.mono (by decide) (by decide)⟩
              · skip
                show Steps p.tables e below (T42.setTop (mkF m 11 #[.val (.int p0), .val (.ref bb1), .val (.int (6 : Int32)), .val (.int (6 : Int32)), .val (.ref u5)] [(.int (6 : Int32)), (.int (6 : Int32))])) _
                refine XS.icmpYes X42.here hx rfl (pc0 := 11) (pc' := 37) rfl (hb hby d1_11) rfl (flt (by decide)).2.1 (by decide) (by decide) ?_
                show Steps p.tables e below (T42.setTop (mkF m 37 #[.val (.int p0), .val (.ref bb1), .val (.int (6 : Int32)), .val (.int (6 : Int32)), .val (.ref u5)] [])) _
                refine st46 _ ?_
                show Steps p.tables e below (T46.setTop (mkF m 40 #[.val (.int p0), .val (.ref bb1), .val (.int (6 : Int32)), .val (.int (6 : Int32)), .val (.ref u5)] [(.ref u5)])) _
                exact retOut X46 hx Bd.returns rfl (Or.inr (Or.inr (Or.inr (Or.inr ⟨rfl, rfl, rfl⟩)))) (hb hby d1_40) hr
              · show Q1 Z p0 va kv u0 u1 u2 u3 u4 u5 h0 n0 _ T46.heap _
                rw [e46]
                exact ⟨by rw [fof, if_neg hc25_19, if_neg hc25_24, if_neg hc25_29, if_neg hc25_34, if_neg hc25_39, if_neg hc25_44], N1, E1⟩
-- the law
theorem pd_1 : parseMethodDescriptor "(B)Lcom/example/moffett/moffett/catalogue/ConfigSource;" = some ⟨[.byte], some (.object "com/example/moffett/moffett/catalogue/ConfigSource")⟩ := by decide +kernel
def Q0 (Z : State) (p0 : Int32) (va : Addr) (kv : ClassId) (u0 u1 u2 u3 u4 u5 : Addr) (h0 : Heap) (n0 : Nat) (v : Option Value) (h : Heap) (L : List Loc) : Prop := v = some (.int (1 : Int32)) ∧ Fr n0 L
theorem ef_rm0 (m : MethodId) (x0 : Int32) : entryFrame m #[(.int x0)] maxLocals = mkF m 0 #[.val (.int x0), .unset, .unset] [] := by first | (simp [entryFrame, mkF, argsToLocals, Value.category, maxLocals]; done) | rfl
theorem pnc_com_example_moffett_moffett_catalogue_ConfigSourceOfPinLaw : plainName "com/example/moffett/moffett/catalogue/ConfigSourceOfPinLaw" = true := by first | (simp [plainName, overriddenIn]; done) | decide +kernel
set_option maxRecDepth 65536 in
set_option maxHeartbeats 40000000 in
theorem rm0 (l : Launch) (Z : State) (a0 : Array Value) (hw : ∀ d ∈ tables_1, d.before a0 Z = true) (ws : List Jvm.Cond) (p0 : Int32) (va : Addr) (kv : ClassId) (u0 u1 u2 u3 u4 u5 : Addr) (h0 : Heap) (n0 : Nat) (Z0 : n0 ≤ h0.size) (SV : Sta Z h0 "com/example/moffett/moffett/catalogue/ConfigSource" "$VALUES" "[Lcom/example/moffett/moffett/catalogue/ConfigSource;" (.ref va)) (AV : Arv Z h0 va kv (.object "com/example/moffett/moffett/catalogue/ConfigSource") (6 : Int32) [(.ref u0), (.ref u1), (.ref u2), (.ref u3), (.ref u4), (.ref u5)] .null) (EV : Exa Z h0 va "[Lcom/example/moffett/moffett/catalogue/ConfigSource;") (S_TOPIC_SETTING : Sta Z h0 "com/example/moffett/moffett/catalogue/ConfigSource" "TOPIC_SETTING" "Lcom/example/moffett/moffett/catalogue/ConfigSource;" (.ref u0)) (S_PER_BROKER_SETTING : Sta Z h0 "com/example/moffett/moffett/catalogue/ConfigSource" "PER_BROKER_SETTING" "Lcom/example/moffett/moffett/catalogue/ConfigSource;" (.ref u1)) (S_CLUSTER_DEFAULT_SETTING : Sta Z h0 "com/example/moffett/moffett/catalogue/ConfigSource" "CLUSTER_DEFAULT_SETTING" "Lcom/example/moffett/moffett/catalogue/ConfigSource;" (.ref u2)) (S_STATIC_BROKER_SETTING : Sta Z h0 "com/example/moffett/moffett/catalogue/ConfigSource" "STATIC_BROKER_SETTING" "Lcom/example/moffett/moffett/catalogue/ConfigSource;" (.ref u3)) (S_BUILT_IN_DEFAULT : Sta Z h0 "com/example/moffett/moffett/catalogue/ConfigSource" "BUILT_IN_DEFAULT" "Lcom/example/moffett/moffett/catalogue/ConfigSource;" (.ref u4)) (S_UNKNOWN : Sta Z h0 "com/example/moffett/moffett/catalogue/ConfigSource" "UNKNOWN" "Lcom/example/moffett/moffett/catalogue/ConfigSource;" (.ref u5)) (F_TOPIC_SETTING : Fld Z h0 u0 "com/example/moffett/moffett/catalogue/ConfigSource" "id" "B" (.int (1 : Int32))) (F_PER_BROKER_SETTING : Fld Z h0 u1 "com/example/moffett/moffett/catalogue/ConfigSource" "id" "B" (.int (2 : Int32))) (F_CLUSTER_DEFAULT_SETTING : Fld Z h0 u2 "com/example/moffett/moffett/catalogue/ConfigSource" "id" "B" (.int (3 : Int32))) (F_STATIC_BROKER_SETTING : Fld Z h0 u3 "com/example/moffett/moffett/catalogue/ConfigSource" "id" "B" (.int (4 : Int32))) (F_BUILT_IN_DEFAULT : Fld Z h0 u4 "com/example/moffett/moffett/catalogue/ConfigSource" "id" "B" (.int (5 : Int32))) (F_UNKNOWN : Fld Z h0 u5 "com/example/moffett/moffett/catalogue/ConfigSource" "id" "B" (.int (0 : Int32))) (FC : ∀ cl : Cell, h0[va]? = some cl → FitC Z cl) :
    MetFree l x (head1 (Jvm.Cond.code x code maxLocals ret :: ws) room_1) (fun a U => a = #[(.int p0)] ∧ Z.Warmed39 U.vm ∧ U.heap = h0) (fun _ _ _ _ _ => True) (fun _ U o U' => ∃ v L, o = .returned v ∧ Q0 Z p0 va kv u0 u1 u2 u3 u4 u5 h0 n0 v U'.heap L ∧ FrameEnd U o U' L room_1.cells room_1.slots) := by
  refine MetFree.of_bodySF (plainFor_of_name pnc_com_example_moffett_moffett_catalogue_ConfigSourceOfPinLaw) hisR ?_
  intro p e s m args below meth c s₁ Bd hml0 hP hK
  obtain ⟨rfl, hZ, hh⟩ := hP
  have hx := Bd.exec
  have hby := Bd.bytes
  have hml : c.maxLocals = 3 := hml0
  have hown : s.vm.findClass "com/example/moffett/moffett/catalogue/ConfigSourceOfPinLaw" = some m.cls := findClass_of_methodNamed Bd.named
  have hnm := (name_of_methodNamed Bd.named Bd.method).1
  have X0 : Stand p l e room_1 s m #[(.int p0)] below meth c s₁ [] 0 0 := Stand.of_body Bd
  have e0 : s₁.heap = h0 := by rw [← hh, Bd.state]; rfl
  have N0 := Fr.nil n0
  have kp0 : Keep h0 h0 [] := Keep.refl _ _
  have G0 : ∀ t, Steps p.tables e below (s₁.setTop (mkF m 0 #[.val (.int p0), .unset, .unset] [])) t → Steps p.tables e below (s₁.setTop (entryFrame m #[(.int p0)] maxLocals)) t := fun t k => castTop (ef_rm0 m p0) k
  have G1 : ∀ t, Steps p.tables e below (s₁.setTop (mkF m 5 #[.val (.int p0), .val (.int (p0.toInt8.toInt32)), .unset] [(.int (1 : Int32)), (.int (p0.toInt8.toInt32))])) t → Steps p.tables e below (s₁.setTop (entryFrame m #[(.int p0)] maxLocals)) t := by
    intro t kt
    refine G0 _ ?_
    show Steps p.tables e below (s₁.setTop (mkF m 0 #[.val (.int p0), .unset, .unset] [])) _
    refine XS.iloadN X0.here hx rfl (hb hby at_0) rfl ?_
    show Steps p.tables e below (s₁.setTop (mkF m 1 #[.val (.int p0), .unset, .unset] [(.int p0)])) _
    refine XS.i2b X0.here hx rfl (hb hby at_1) rfl ?_
    show Steps p.tables e below (s₁.setTop (mkF m 2 #[.val (.int p0), .unset, .unset] [(.int (p0.toInt8.toInt32))])) _
    refine XS.istoreN X0.here hx rfl (hb hby at_2) rfl (l' := #[.val (.int p0), .val (.int (p0.toInt8.toInt32)), .unset]) rfl ?_
    show Steps p.tables e below (s₁.setTop (mkF m 3 #[.val (.int p0), .val (.int (p0.toInt8.toInt32)), .unset] [])) _
    refine XS.iloadN X0.here hx rfl (hb hby at_3) rfl ?_
    show Steps p.tables e below (s₁.setTop (mkF m 4 #[.val (.int p0), .val (.int (p0.toInt8.toInt32)), .unset] [(.int (p0.toInt8.toInt32))])) _
    refine XS.iconst X0.here hx rfl (hb hby at_4) ?_
    exact kt
  by_cases hc5_2 : (p0.toInt8.toInt32) = (1 : Int32)
  · skip
    obtain ⟨T3, X3, e3, st3⟩ := getS2 X0 hx hZ hown (host := "") (Or.inl (hw _ (List.mem_of_getElem? (i := 31) rfl))) Via.refl e0 S_TOPIC_SETTING (g := (mkF m 8 #[.val (.int p0), .val (.int (p0.toInt8.toInt32)), .unset] [])) rfl (hb hby at_8)
    obtain ⟨_, _, ⟨T4, L4, k4, n4⟩, -, X4, ⟨Lc4, hQ4, l4, y4, z4⟩, st4⟩ := Jvm.LawKit.callS X3 hx (y := (⟨"com/example/moffett/moffett/catalogue/ConfigSource", "of", "(B)Lcom/example/moffett/moffett/catalogue/ConfigSource;"⟩ : MethodName)) hown (mvT hZ (hw _ (List.mem_of_getElem? (i := 3) rfl))) (mvT hZ (hw _ (List.mem_of_getElem? (i := 4) rfl))) (mvT hZ (hw _ (List.mem_of_getElem? (i := 1) rfl))) (mvT hZ (hw _ (List.mem_of_getElem? (i := 5) rfl))) (by decide) (backOf (W := 0) (rm1 l Z a0 hw [] (p0.toInt8.toInt32) va kv u0 u1 u2 u3 u4 u5 h0 n0 Z0 SV AV EV S_UNKNOWN F_TOPIC_SETTING F_PER_BROKER_SETTING F_CLUSTER_DEFAULT_SETTING F_STATIC_BROKER_SETTING F_BUILT_IN_DEFAULT F_UNKNOWN FC) hZ (hw _ (List.mem_of_getElem? (i := 5) rfl)) (hw _ (List.mem_of_getElem? (i := 1) rfl)) (by decide) (by decide)) (g := (mkF m 68 #[.val (.int p0), .val (.int (p0.toInt8.toInt32)), .val (.ref u0)] [(.int (p0.toInt8.toInt32))])) rfl (by rw [hml]; rfl) (argsL := [(.int (p0.toInt8.toInt32))]) (rest := []) (lenOf pd_1 rfl) rfl (by show 2 * 0 + _ ≤ _; exact Nat.le_of_eq rfl) (hb hby at_68) (fun _ _ => ⟨rfl, e3, (by decide : 0 + 1 ≤ _), (by decide : 0 + 6 ≤ _)⟩)
    dsimp only [Pt.U, Pt.locs, Pt.cells, Pt.slots] at X4 l4 y4 z4 st4 hQ4
    subst l4 y4 z4
    obtain ⟨rfl, N4q, E4⟩ := hQ4
    have N4 := Fr.app N0 N4q
    have f5 : Sta Z T4.heap "com/example/moffett/moffett/catalogue/ConfigSource" "$VALUES" "[Lcom/example/moffett/moffett/catalogue/ConfigSource;" (.ref va) := SV.ext E4
    have f6 : Arv Z T4.heap va kv (.object "com/example/moffett/moffett/catalogue/ConfigSource") (6 : Int32) [(.ref u0), (.ref u1), (.ref u2), (.ref u3), (.ref u4), (.ref u5)] .null := AV.ext E4
    have f7 : Exa Z T4.heap va "[Lcom/example/moffett/moffett/catalogue/ConfigSource;" := EV.ext E4
    have f8 : Sta Z T4.heap "com/example/moffett/moffett/catalogue/ConfigSource" "TOPIC_SETTING" "Lcom/example/moffett/moffett/catalogue/ConfigSource;" (.ref u0) := S_TOPIC_SETTING.ext E4
    have f9 : Sta Z T4.heap "com/example/moffett/moffett/catalogue/ConfigSource" "PER_BROKER_SETTING" "Lcom/example/moffett/moffett/catalogue/ConfigSource;" (.ref u1) := S_PER_BROKER_SETTING.ext E4
    have f10 : Sta Z T4.heap "com/example/moffett/moffett/catalogue/ConfigSource" "CLUSTER_DEFAULT_SETTING" "Lcom/example/moffett/moffett/catalogue/ConfigSource;" (.ref u2) := S_CLUSTER_DEFAULT_SETTING.ext E4
    have f11 : Sta Z T4.heap "com/example/moffett/moffett/catalogue/ConfigSource" "STATIC_BROKER_SETTING" "Lcom/example/moffett/moffett/catalogue/ConfigSource;" (.ref u3) := S_STATIC_BROKER_SETTING.ext E4
    have f12 : Sta Z T4.heap "com/example/moffett/moffett/catalogue/ConfigSource" "BUILT_IN_DEFAULT" "Lcom/example/moffett/moffett/catalogue/ConfigSource;" (.ref u4) := S_BUILT_IN_DEFAULT.ext E4
    have f13 : Sta Z T4.heap "com/example/moffett/moffett/catalogue/ConfigSource" "UNKNOWN" "Lcom/example/moffett/moffett/catalogue/ConfigSource;" (.ref u5) := S_UNKNOWN.ext E4
    have f14 : Fld Z T4.heap u0 "com/example/moffett/moffett/catalogue/ConfigSource" "id" "B" (.int (1 : Int32)) := F_TOPIC_SETTING.ext E4
    have f15 : Fld Z T4.heap u1 "com/example/moffett/moffett/catalogue/ConfigSource" "id" "B" (.int (2 : Int32)) := F_PER_BROKER_SETTING.ext E4
    have f16 : Fld Z T4.heap u2 "com/example/moffett/moffett/catalogue/ConfigSource" "id" "B" (.int (3 : Int32)) := F_CLUSTER_DEFAULT_SETTING.ext E4
    have f17 : Fld Z T4.heap u3 "com/example/moffett/moffett/catalogue/ConfigSource" "id" "B" (.int (4 : Int32)) := F_STATIC_BROKER_SETTING.ext E4
    have f18 : Fld Z T4.heap u4 "com/example/moffett/moffett/catalogue/ConfigSource" "id" "B" (.int (5 : Int32)) := F_BUILT_IN_DEFAULT.ext E4
    have f19 : Fld Z T4.heap u5 "com/example/moffett/moffett/catalogue/ConfigSource" "id" "B" (.int (0 : Int32)) := F_UNKNOWN.ext E4
    have z20 : n0 ≤ T4.heap.size := Nat.le_trans Z0 E4.1
    have kp21 : Keep h0 T4.heap [] := kp0.ext E4
    have G22 : ∀ t, Steps p.tables e below (T4.setTop (mkF m 72 #[.val (.int p0), .val (.int (p0.toInt8.toInt32)), .val (.ref u0)] [(.ref u0), (.ref (fof (p0.toInt8.toInt32) u0 u1 u2 u3 u4 u5))])) t → Steps p.tables e below (s₁.setTop (entryFrame m #[(.int p0)] maxLocals)) t := by
      intro t kt
      refine G1 _ ?_
      show Steps p.tables e below (s₁.setTop (mkF m 5 #[.val (.int p0), .val (.int (p0.toInt8.toInt32)), .unset] [(.int (1 : Int32)), (.int (p0.toInt8.toInt32))])) _
      refine XS.icmpNo X0.here hx rfl (hb hby at_5) rfl (teq hc5_2).2 ?_
      show Steps p.tables e below (s₁.setTop (mkF m 8 #[.val (.int p0), .val (.int (p0.toInt8.toInt32)), .unset] [])) _
      refine st3 _ ?_
      show Steps p.tables e below (T3.setTop (mkF m 11 #[.val (.int p0), .val (.int (p0.toInt8.toInt32)), .unset] [(.ref u0)])) _
      refine XS.astoreN X3.here hx rfl (hb hby at_11) rfl rfl (l' := #[.val (.int p0), .val (.int (p0.toInt8.toInt32)), .val (.ref u0)]) rfl ?_
      show Steps p.tables e below (T3.setTop (mkF m 12 #[.val (.int p0), .val (.int (p0.toInt8.toInt32)), .val (.ref u0)] [])) _
      refine XS.goto X3.here hx rfl (pc0 := 12) (pc' := 67) rfl (hb hby at_12) (by decide) (by decide) ?_
      show Steps p.tables e below (T3.setTop (mkF m 67 #[.val (.int p0), .val (.int (p0.toInt8.toInt32)), .val (.ref u0)] [])) _
      refine XS.iloadN X3.here hx rfl (hb hby at_67) rfl ?_
      show Steps p.tables e below (T3.setTop (mkF m 68 #[.val (.int p0), .val (.int (p0.toInt8.toInt32)), .val (.ref u0)] [(.int (p0.toInt8.toInt32))])) _
      refine st4 _ ?_
      show Steps p.tables e below (T4.setTop (mkF m 71 #[.val (.int p0), .val (.int (p0.toInt8.toInt32)), .val (.ref u0)] [(.ref (fof (p0.toInt8.toInt32) u0 u1 u2 u3 u4 u5))])) _
      refine XS.aloadN X4.here hx rfl (hb hby at_71) rfl rfl ?_
      exact kt
    have hc72_23 : (fof (p0.toInt8.toInt32) u0 u1 u2 u3 u4 u5) = u0 := by rw [fof, if_pos (Eq.symm hc5_2)]
    obtain ⟨fs, hr, hrun, hended, hW, hsame⟩ := X4.leave (v := some (.int (1 : Int32))) (fun h => by rw [Bd.returns] at h; cases h)
    refine ⟨_, _, G22 _ ?_, hrun, hended, _, _, rfl, ?_, ⟨_, rfl⟩, hW, hsame.mono (by decide) (by decide)⟩
    · skip
      show Steps p.tables e below (T4.setTop (mkF m 72 #[.val (.int p0), .val (.int (p0.toInt8.toInt32)), .val (.ref u0)] [(.ref u0), (.ref (fof (p0.toInt8.toInt32) u0 u1 u2 u3 u4 u5))])) _
      refine Jvm.RoadKit.acmp (g := (mkF m 72 #[.val (.int p0), .val (.int (p0.toInt8.toInt32)), .val (.ref u0)] [(.ref u0), (.ref (fof (p0.toInt8.toInt32) u0 u1 u2 u3 u4 u5))])) X4 hx rfl rfl rfl (pc0 := 72) (pc' := 75) (same := true) rfl (hb hby at_72) rfl (decide_eq_true (congrArg Value.ref hc72_23)) (by decide) (by decide) ?_
      show Steps p.tables e below (T4.setTop (mkF m 75 #[.val (.int p0), .val (.int (p0.toInt8.toInt32)), .val (.ref u0)] [])) _
      refine XS.iconst X4.here hx rfl (hb hby at_75) ?_
      show Steps p.tables e below (T4.setTop (mkF m 76 #[.val (.int p0), .val (.int (p0.toInt8.toInt32)), .val (.ref u0)] [(.int (1 : Int32))])) _
      refine XS.goto X4.here hx rfl (pc0 := 76) (pc' := 80) rfl (hb hby at_76) (by decide) (by decide) ?_
      show Steps p.tables e below (T4.setTop (mkF m 80 #[.val (.int p0), .val (.int (p0.toInt8.toInt32)), .val (.ref u0)] [(.int (1 : Int32))])) _
      exact retN X4 hx (t := .boolean) Bd.returns (by simp) (hb hby at_80) hr
    · show Q0 Z p0 va kv u0 u1 u2 u3 u4 u5 h0 n0 _ T4.heap _
      exact ⟨rfl, N4⟩
  · skip
    have G24 : ∀ t, Steps p.tables e below (s₁.setTop (mkF m 17 #[.val (.int p0), .val (.int (p0.toInt8.toInt32)), .unset] [(.int (2 : Int32)), (.int (p0.toInt8.toInt32))])) t → Steps p.tables e below (s₁.setTop (entryFrame m #[(.int p0)] maxLocals)) t := by
      intro t kt
      refine G1 _ ?_
      show Steps p.tables e below (s₁.setTop (mkF m 5 #[.val (.int p0), .val (.int (p0.toInt8.toInt32)), .unset] [(.int (1 : Int32)), (.int (p0.toInt8.toInt32))])) _
      refine XS.icmpYes X0.here hx rfl (pc0 := 5) (pc' := 15) rfl (hb hby at_5) rfl (feq hc5_2).2 (by decide) (by decide) ?_
      show Steps p.tables e below (s₁.setTop (mkF m 15 #[.val (.int p0), .val (.int (p0.toInt8.toInt32)), .unset] [])) _
      refine XS.iloadN X0.here hx rfl (hb hby at_15) rfl ?_
      show Steps p.tables e below (s₁.setTop (mkF m 16 #[.val (.int p0), .val (.int (p0.toInt8.toInt32)), .unset] [(.int (p0.toInt8.toInt32))])) _
      refine XS.iconst X0.here hx rfl (hb hby at_16) ?_
      exact kt
    by_cases hc17_25 : (p0.toInt8.toInt32) = (2 : Int32)
    · skip
      obtain ⟨T26, X26, e26, st26⟩ := getS2 X0 hx hZ hown (host := "") (Or.inl (hw _ (List.mem_of_getElem? (i := 30) rfl))) Via.refl e0 S_PER_BROKER_SETTING (g := (mkF m 20 #[.val (.int p0), .val (.int (p0.toInt8.toInt32)), .unset] [])) rfl (hb hby at_20)
      obtain ⟨_, _, ⟨T27, L27, k27, n27⟩, -, X27, ⟨Lc27, hQ27, l27, y27, z27⟩, st27⟩ := Jvm.LawKit.callS X26 hx (y := (⟨"com/example/moffett/moffett/catalogue/ConfigSource", "of", "(B)Lcom/example/moffett/moffett/catalogue/ConfigSource;"⟩ : MethodName)) hown (mvT hZ (hw _ (List.mem_of_getElem? (i := 3) rfl))) (mvT hZ (hw _ (List.mem_of_getElem? (i := 4) rfl))) (mvT hZ (hw _ (List.mem_of_getElem? (i := 1) rfl))) (mvT hZ (hw _ (List.mem_of_getElem? (i := 5) rfl))) (by decide) (backOf (W := 0) (rm1 l Z a0 hw [] (p0.toInt8.toInt32) va kv u0 u1 u2 u3 u4 u5 h0 n0 Z0 SV AV EV S_UNKNOWN F_TOPIC_SETTING F_PER_BROKER_SETTING F_CLUSTER_DEFAULT_SETTING F_STATIC_BROKER_SETTING F_BUILT_IN_DEFAULT F_UNKNOWN FC) hZ (hw _ (List.mem_of_getElem? (i := 5) rfl)) (hw _ (List.mem_of_getElem? (i := 1) rfl)) (by decide) (by decide)) (g := (mkF m 68 #[.val (.int p0), .val (.int (p0.toInt8.toInt32)), .val (.ref u1)] [(.int (p0.toInt8.toInt32))])) rfl (by rw [hml]; rfl) (argsL := [(.int (p0.toInt8.toInt32))]) (rest := []) (lenOf pd_1 rfl) rfl (by show 2 * 0 + _ ≤ _; exact Nat.le_of_eq rfl) (hb hby at_68) (fun _ _ => ⟨rfl, e26, (by decide : 0 + 1 ≤ _), (by decide : 0 + 6 ≤ _)⟩)
      dsimp only [Pt.U, Pt.locs, Pt.cells, Pt.slots] at X27 l27 y27 z27 st27 hQ27
      subst l27 y27 z27
      obtain ⟨rfl, N27q, E27⟩ := hQ27
      have N27 := Fr.app N0 N27q
      have f28 : Sta Z T27.heap "com/example/moffett/moffett/catalogue/ConfigSource" "$VALUES" "[Lcom/example/moffett/moffett/catalogue/ConfigSource;" (.ref va) := SV.ext E27
      have f29 : Arv Z T27.heap va kv (.object "com/example/moffett/moffett/catalogue/ConfigSource") (6 : Int32) [(.ref u0), (.ref u1), (.ref u2), (.ref u3), (.ref u4), (.ref u5)] .null := AV.ext E27
      have f30 : Exa Z T27.heap va "[Lcom/example/moffett/moffett/catalogue/ConfigSource;" := EV.ext E27
      have f31 : Sta Z T27.heap "com/example/moffett/moffett/catalogue/ConfigSource" "TOPIC_SETTING" "Lcom/example/moffett/moffett/catalogue/ConfigSource;" (.ref u0) := S_TOPIC_SETTING.ext E27
      have f32 : Sta Z T27.heap "com/example/moffett/moffett/catalogue/ConfigSource" "PER_BROKER_SETTING" "Lcom/example/moffett/moffett/catalogue/ConfigSource;" (.ref u1) := S_PER_BROKER_SETTING.ext E27
      have f33 : Sta Z T27.heap "com/example/moffett/moffett/catalogue/ConfigSource" "CLUSTER_DEFAULT_SETTING" "Lcom/example/moffett/moffett/catalogue/ConfigSource;" (.ref u2) := S_CLUSTER_DEFAULT_SETTING.ext E27
      have f34 : Sta Z T27.heap "com/example/moffett/moffett/catalogue/ConfigSource" "STATIC_BROKER_SETTING" "Lcom/example/moffett/moffett/catalogue/ConfigSource;" (.ref u3) := S_STATIC_BROKER_SETTING.ext E27
      have f35 : Sta Z T27.heap "com/example/moffett/moffett/catalogue/ConfigSource" "BUILT_IN_DEFAULT" "Lcom/example/moffett/moffett/catalogue/ConfigSource;" (.ref u4) := S_BUILT_IN_DEFAULT.ext E27
      have f36 : Sta Z T27.heap "com/example/moffett/moffett/catalogue/ConfigSource" "UNKNOWN" "Lcom/example/moffett/moffett/catalogue/ConfigSource;" (.ref u5) := S_UNKNOWN.ext E27
      have f37 : Fld Z T27.heap u0 "com/example/moffett/moffett/catalogue/ConfigSource" "id" "B" (.int (1 : Int32)) := F_TOPIC_SETTING.ext E27
      have f38 : Fld Z T27.heap u1 "com/example/moffett/moffett/catalogue/ConfigSource" "id" "B" (.int (2 : Int32)) := F_PER_BROKER_SETTING.ext E27
      have f39 : Fld Z T27.heap u2 "com/example/moffett/moffett/catalogue/ConfigSource" "id" "B" (.int (3 : Int32)) := F_CLUSTER_DEFAULT_SETTING.ext E27
      have f40 : Fld Z T27.heap u3 "com/example/moffett/moffett/catalogue/ConfigSource" "id" "B" (.int (4 : Int32)) := F_STATIC_BROKER_SETTING.ext E27
      have f41 : Fld Z T27.heap u4 "com/example/moffett/moffett/catalogue/ConfigSource" "id" "B" (.int (5 : Int32)) := F_BUILT_IN_DEFAULT.ext E27
      have f42 : Fld Z T27.heap u5 "com/example/moffett/moffett/catalogue/ConfigSource" "id" "B" (.int (0 : Int32)) := F_UNKNOWN.ext E27
      have z43 : n0 ≤ T27.heap.size := Nat.le_trans Z0 E27.1
      have kp44 : Keep h0 T27.heap [] := kp0.ext E27
      have G45 : ∀ t, Steps p.tables e below (T27.setTop (mkF m 72 #[.val (.int p0), .val (.int (p0.toInt8.toInt32)), .val (.ref u1)] [(.ref u1), (.ref (fof (p0.toInt8.toInt32) u0 u1 u2 u3 u4 u5))])) t → Steps p.tables e below (s₁.setTop (entryFrame m #[(.int p0)] maxLocals)) t := by
        intro t kt
        refine G24 _ ?_
        show Steps p.tables e below (s₁.setTop (mkF m 17 #[.val (.int p0), .val (.int (p0.toInt8.toInt32)), .unset] [(.int (2 : Int32)), (.int (p0.toInt8.toInt32))])) _
        refine XS.icmpNo X0.here hx rfl (hb hby at_17) rfl (teq hc17_25).2 ?_
        show Steps p.tables e below (s₁.setTop (mkF m 20 #[.val (.int p0), .val (.int (p0.toInt8.toInt32)), .unset] [])) _
        refine st26 _ ?_
        show Steps p.tables e below (T26.setTop (mkF m 23 #[.val (.int p0), .val (.int (p0.toInt8.toInt32)), .unset] [(.ref u1)])) _
        refine XS.astoreN X26.here hx rfl (hb hby at_23) rfl rfl (l' := #[.val (.int p0), .val (.int (p0.toInt8.toInt32)), .val (.ref u1)]) rfl ?_
        show Steps p.tables e below (T26.setTop (mkF m 24 #[.val (.int p0), .val (.int (p0.toInt8.toInt32)), .val (.ref u1)] [])) _
        refine XS.goto X26.here hx rfl (pc0 := 24) (pc' := 67) rfl (hb hby at_24) (by decide) (by decide) ?_
        show Steps p.tables e below (T26.setTop (mkF m 67 #[.val (.int p0), .val (.int (p0.toInt8.toInt32)), .val (.ref u1)] [])) _
        refine XS.iloadN X26.here hx rfl (hb hby at_67) rfl ?_
        show Steps p.tables e below (T26.setTop (mkF m 68 #[.val (.int p0), .val (.int (p0.toInt8.toInt32)), .val (.ref u1)] [(.int (p0.toInt8.toInt32))])) _
        refine st27 _ ?_
        show Steps p.tables e below (T27.setTop (mkF m 71 #[.val (.int p0), .val (.int (p0.toInt8.toInt32)), .val (.ref u1)] [(.ref (fof (p0.toInt8.toInt32) u0 u1 u2 u3 u4 u5))])) _
        refine XS.aloadN X27.here hx rfl (hb hby at_71) rfl rfl ?_
        exact kt
      have hc72_46 : (fof (p0.toInt8.toInt32) u0 u1 u2 u3 u4 u5) = u1 := by rw [fof, if_neg (Ne.symm hc5_2), if_pos (Eq.symm hc17_25)]
      obtain ⟨fs, hr, hrun, hended, hW, hsame⟩ := X27.leave (v := some (.int (1 : Int32))) (fun h => by rw [Bd.returns] at h; cases h)
      refine ⟨_, _, G45 _ ?_, hrun, hended, _, _, rfl, ?_, ⟨_, rfl⟩, hW, hsame.mono (by decide) (by decide)⟩
      · skip
        show Steps p.tables e below (T27.setTop (mkF m 72 #[.val (.int p0), .val (.int (p0.toInt8.toInt32)), .val (.ref u1)] [(.ref u1), (.ref (fof (p0.toInt8.toInt32) u0 u1 u2 u3 u4 u5))])) _
        refine Jvm.RoadKit.acmp (g := (mkF m 72 #[.val (.int p0), .val (.int (p0.toInt8.toInt32)), .val (.ref u1)] [(.ref u1), (.ref (fof (p0.toInt8.toInt32) u0 u1 u2 u3 u4 u5))])) X27 hx rfl rfl rfl (pc0 := 72) (pc' := 75) (same := true) rfl (hb hby at_72) rfl (decide_eq_true (congrArg Value.ref hc72_46)) (by decide) (by decide) ?_
        show Steps p.tables e below (T27.setTop (mkF m 75 #[.val (.int p0), .val (.int (p0.toInt8.toInt32)), .val (.ref u1)] [])) _
        refine XS.iconst X27.here hx rfl (hb hby at_75) ?_
        show Steps p.tables e below (T27.setTop (mkF m 76 #[.val (.int p0), .val (.int (p0.toInt8.toInt32)), .val (.ref u1)] [(.int (1 : Int32))])) _
        refine XS.goto X27.here hx rfl (pc0 := 76) (pc' := 80) rfl (hb hby at_76) (by decide) (by decide) ?_
        show Steps p.tables e below (T27.setTop (mkF m 80 #[.val (.int p0), .val (.int (p0.toInt8.toInt32)), .val (.ref u1)] [(.int (1 : Int32))])) _
        exact retN X27 hx (t := .boolean) Bd.returns (by simp) (hb hby at_80) hr
      · show Q0 Z p0 va kv u0 u1 u2 u3 u4 u5 h0 n0 _ T27.heap _
        exact ⟨rfl, N27⟩
    · skip
      have G47 : ∀ t, Steps p.tables e below (s₁.setTop (mkF m 29 #[.val (.int p0), .val (.int (p0.toInt8.toInt32)), .unset] [(.int (3 : Int32)), (.int (p0.toInt8.toInt32))])) t → Steps p.tables e below (s₁.setTop (entryFrame m #[(.int p0)] maxLocals)) t := by
        intro t kt
        refine G24 _ ?_
        show Steps p.tables e below (s₁.setTop (mkF m 17 #[.val (.int p0), .val (.int (p0.toInt8.toInt32)), .unset] [(.int (2 : Int32)), (.int (p0.toInt8.toInt32))])) _
        refine XS.icmpYes X0.here hx rfl (pc0 := 17) (pc' := 27) rfl (hb hby at_17) rfl (feq hc17_25).2 (by decide) (by decide) ?_
        show Steps p.tables e below (s₁.setTop (mkF m 27 #[.val (.int p0), .val (.int (p0.toInt8.toInt32)), .unset] [])) _
        refine XS.iloadN X0.here hx rfl (hb hby at_27) rfl ?_
        show Steps p.tables e below (s₁.setTop (mkF m 28 #[.val (.int p0), .val (.int (p0.toInt8.toInt32)), .unset] [(.int (p0.toInt8.toInt32))])) _
        refine XS.iconst X0.here hx rfl (hb hby at_28) ?_
        exact kt
      by_cases hc29_48 : (p0.toInt8.toInt32) = (3 : Int32)
      · skip
        obtain ⟨T49, X49, e49, st49⟩ := getS2 X0 hx hZ hown (host := "") (Or.inl (hw _ (List.mem_of_getElem? (i := 28) rfl))) Via.refl e0 S_CLUSTER_DEFAULT_SETTING (g := (mkF m 32 #[.val (.int p0), .val (.int (p0.toInt8.toInt32)), .unset] [])) rfl (hb hby at_32)
        obtain ⟨_, _, ⟨T50, L50, k50, n50⟩, -, X50, ⟨Lc50, hQ50, l50, y50, z50⟩, st50⟩ := Jvm.LawKit.callS X49 hx (y := (⟨"com/example/moffett/moffett/catalogue/ConfigSource", "of", "(B)Lcom/example/moffett/moffett/catalogue/ConfigSource;"⟩ : MethodName)) hown (mvT hZ (hw _ (List.mem_of_getElem? (i := 3) rfl))) (mvT hZ (hw _ (List.mem_of_getElem? (i := 4) rfl))) (mvT hZ (hw _ (List.mem_of_getElem? (i := 1) rfl))) (mvT hZ (hw _ (List.mem_of_getElem? (i := 5) rfl))) (by decide) (backOf (W := 0) (rm1 l Z a0 hw [] (p0.toInt8.toInt32) va kv u0 u1 u2 u3 u4 u5 h0 n0 Z0 SV AV EV S_UNKNOWN F_TOPIC_SETTING F_PER_BROKER_SETTING F_CLUSTER_DEFAULT_SETTING F_STATIC_BROKER_SETTING F_BUILT_IN_DEFAULT F_UNKNOWN FC) hZ (hw _ (List.mem_of_getElem? (i := 5) rfl)) (hw _ (List.mem_of_getElem? (i := 1) rfl)) (by decide) (by decide)) (g := (mkF m 68 #[.val (.int p0), .val (.int (p0.toInt8.toInt32)), .val (.ref u2)] [(.int (p0.toInt8.toInt32))])) rfl (by rw [hml]; rfl) (argsL := [(.int (p0.toInt8.toInt32))]) (rest := []) (lenOf pd_1 rfl) rfl (by show 2 * 0 + _ ≤ _; exact Nat.le_of_eq rfl) (hb hby at_68) (fun _ _ => ⟨rfl, e49, (by decide : 0 + 1 ≤ _), (by decide : 0 + 6 ≤ _)⟩)
        dsimp only [Pt.U, Pt.locs, Pt.cells, Pt.slots] at X50 l50 y50 z50 st50 hQ50
        subst l50 y50 z50
        obtain ⟨rfl, N50q, E50⟩ := hQ50
        have N50 := Fr.app N0 N50q
        have f51 : Sta Z T50.heap "com/example/moffett/moffett/catalogue/ConfigSource" "$VALUES" "[Lcom/example/moffett/moffett/catalogue/ConfigSource;" (.ref va) := SV.ext E50
        have f52 : Arv Z T50.heap va kv (.object "com/example/moffett/moffett/catalogue/ConfigSource") (6 : Int32) [(.ref u0), (.ref u1), (.ref u2), (.ref u3), (.ref u4), (.ref u5)] .null := AV.ext E50
        have f53 : Exa Z T50.heap va "[Lcom/example/moffett/moffett/catalogue/ConfigSource;" := EV.ext E50
        have f54 : Sta Z T50.heap "com/example/moffett/moffett/catalogue/ConfigSource" "TOPIC_SETTING" "Lcom/example/moffett/moffett/catalogue/ConfigSource;" (.ref u0) := S_TOPIC_SETTING.ext E50
        have f55 : Sta Z T50.heap "com/example/moffett/moffett/catalogue/ConfigSource" "PER_BROKER_SETTING" "Lcom/example/moffett/moffett/catalogue/ConfigSource;" (.ref u1) := S_PER_BROKER_SETTING.ext E50
        have f56 : Sta Z T50.heap "com/example/moffett/moffett/catalogue/ConfigSource" "CLUSTER_DEFAULT_SETTING" "Lcom/example/moffett/moffett/catalogue/ConfigSource;" (.ref u2) := S_CLUSTER_DEFAULT_SETTING.ext E50
        have f57 : Sta Z T50.heap "com/example/moffett/moffett/catalogue/ConfigSource" "STATIC_BROKER_SETTING" "Lcom/example/moffett/moffett/catalogue/ConfigSource;" (.ref u3) := S_STATIC_BROKER_SETTING.ext E50
        have f58 : Sta Z T50.heap "com/example/moffett/moffett/catalogue/ConfigSource" "BUILT_IN_DEFAULT" "Lcom/example/moffett/moffett/catalogue/ConfigSource;" (.ref u4) := S_BUILT_IN_DEFAULT.ext E50
        have f59 : Sta Z T50.heap "com/example/moffett/moffett/catalogue/ConfigSource" "UNKNOWN" "Lcom/example/moffett/moffett/catalogue/ConfigSource;" (.ref u5) := S_UNKNOWN.ext E50
        have f60 : Fld Z T50.heap u0 "com/example/moffett/moffett/catalogue/ConfigSource" "id" "B" (.int (1 : Int32)) := F_TOPIC_SETTING.ext E50
        have f61 : Fld Z T50.heap u1 "com/example/moffett/moffett/catalogue/ConfigSource" "id" "B" (.int (2 : Int32)) := F_PER_BROKER_SETTING.ext E50
        have f62 : Fld Z T50.heap u2 "com/example/moffett/moffett/catalogue/ConfigSource" "id" "B" (.int (3 : Int32)) := F_CLUSTER_DEFAULT_SETTING.ext E50
        have f63 : Fld Z T50.heap u3 "com/example/moffett/moffett/catalogue/ConfigSource" "id" "B" (.int (4 : Int32)) := F_STATIC_BROKER_SETTING.ext E50
        have f64 : Fld Z T50.heap u4 "com/example/moffett/moffett/catalogue/ConfigSource" "id" "B" (.int (5 : Int32)) := F_BUILT_IN_DEFAULT.ext E50
        have f65 : Fld Z T50.heap u5 "com/example/moffett/moffett/catalogue/ConfigSource" "id" "B" (.int (0 : Int32)) := F_UNKNOWN.ext E50
        have z66 : n0 ≤ T50.heap.size := Nat.le_trans Z0 E50.1
        have kp67 : Keep h0 T50.heap [] := kp0.ext E50
        have G68 : ∀ t, Steps p.tables e below (T50.setTop (mkF m 72 #[.val (.int p0), .val (.int (p0.toInt8.toInt32)), .val (.ref u2)] [(.ref u2), (.ref (fof (p0.toInt8.toInt32) u0 u1 u2 u3 u4 u5))])) t → Steps p.tables e below (s₁.setTop (entryFrame m #[(.int p0)] maxLocals)) t := by
          intro t kt
          refine G47 _ ?_
          show Steps p.tables e below (s₁.setTop (mkF m 29 #[.val (.int p0), .val (.int (p0.toInt8.toInt32)), .unset] [(.int (3 : Int32)), (.int (p0.toInt8.toInt32))])) _
          refine XS.icmpNo X0.here hx rfl (hb hby at_29) rfl (teq hc29_48).2 ?_
          show Steps p.tables e below (s₁.setTop (mkF m 32 #[.val (.int p0), .val (.int (p0.toInt8.toInt32)), .unset] [])) _
          refine st49 _ ?_
          show Steps p.tables e below (T49.setTop (mkF m 35 #[.val (.int p0), .val (.int (p0.toInt8.toInt32)), .unset] [(.ref u2)])) _
          refine XS.astoreN X49.here hx rfl (hb hby at_35) rfl rfl (l' := #[.val (.int p0), .val (.int (p0.toInt8.toInt32)), .val (.ref u2)]) rfl ?_
          show Steps p.tables e below (T49.setTop (mkF m 36 #[.val (.int p0), .val (.int (p0.toInt8.toInt32)), .val (.ref u2)] [])) _
          refine XS.goto X49.here hx rfl (pc0 := 36) (pc' := 67) rfl (hb hby at_36) (by decide) (by decide) ?_
          show Steps p.tables e below (T49.setTop (mkF m 67 #[.val (.int p0), .val (.int (p0.toInt8.toInt32)), .val (.ref u2)] [])) _
          refine XS.iloadN X49.here hx rfl (hb hby at_67) rfl ?_
          show Steps p.tables e below (T49.setTop (mkF m 68 #[.val (.int p0), .val (.int (p0.toInt8.toInt32)), .val (.ref u2)] [(.int (p0.toInt8.toInt32))])) _
          refine st50 _ ?_
          show Steps p.tables e below (T50.setTop (mkF m 71 #[.val (.int p0), .val (.int (p0.toInt8.toInt32)), .val (.ref u2)] [(.ref (fof (p0.toInt8.toInt32) u0 u1 u2 u3 u4 u5))])) _
          refine XS.aloadN X50.here hx rfl (hb hby at_71) rfl rfl ?_
          exact kt
        have hc72_69 : (fof (p0.toInt8.toInt32) u0 u1 u2 u3 u4 u5) = u2 := by rw [fof, if_neg (Ne.symm hc5_2), if_neg (Ne.symm hc17_25), if_pos (Eq.symm hc29_48)]
        obtain ⟨fs, hr, hrun, hended, hW, hsame⟩ := X50.leave (v := some (.int (1 : Int32))) (fun h => by rw [Bd.returns] at h; cases h)
        refine ⟨_, _, G68 _ ?_, hrun, hended, _, _, rfl, ?_, ⟨_, rfl⟩, hW, hsame.mono (by decide) (by decide)⟩
        · skip
          show Steps p.tables e below (T50.setTop (mkF m 72 #[.val (.int p0), .val (.int (p0.toInt8.toInt32)), .val (.ref u2)] [(.ref u2), (.ref (fof (p0.toInt8.toInt32) u0 u1 u2 u3 u4 u5))])) _
          refine Jvm.RoadKit.acmp (g := (mkF m 72 #[.val (.int p0), .val (.int (p0.toInt8.toInt32)), .val (.ref u2)] [(.ref u2), (.ref (fof (p0.toInt8.toInt32) u0 u1 u2 u3 u4 u5))])) X50 hx rfl rfl rfl (pc0 := 72) (pc' := 75) (same := true) rfl (hb hby at_72) rfl (decide_eq_true (congrArg Value.ref hc72_69)) (by decide) (by decide) ?_
          show Steps p.tables e below (T50.setTop (mkF m 75 #[.val (.int p0), .val (.int (p0.toInt8.toInt32)), .val (.ref u2)] [])) _
          refine XS.iconst X50.here hx rfl (hb hby at_75) ?_
          show Steps p.tables e below (T50.setTop (mkF m 76 #[.val (.int p0), .val (.int (p0.toInt8.toInt32)), .val (.ref u2)] [(.int (1 : Int32))])) _
          refine XS.goto X50.here hx rfl (pc0 := 76) (pc' := 80) rfl (hb hby at_76) (by decide) (by decide) ?_
          show Steps p.tables e below (T50.setTop (mkF m 80 #[.val (.int p0), .val (.int (p0.toInt8.toInt32)), .val (.ref u2)] [(.int (1 : Int32))])) _
          exact retN X50 hx (t := .boolean) Bd.returns (by simp) (hb hby at_80) hr
        · show Q0 Z p0 va kv u0 u1 u2 u3 u4 u5 h0 n0 _ T50.heap _
          exact ⟨rfl, N50⟩
      · skip
        have G70 : ∀ t, Steps p.tables e below (s₁.setTop (mkF m 41 #[.val (.int p0), .val (.int (p0.toInt8.toInt32)), .unset] [(.int (4 : Int32)), (.int (p0.toInt8.toInt32))])) t → Steps p.tables e below (s₁.setTop (entryFrame m #[(.int p0)] maxLocals)) t := by
          intro t kt
          refine G47 _ ?_
          show Steps p.tables e below (s₁.setTop (mkF m 29 #[.val (.int p0), .val (.int (p0.toInt8.toInt32)), .unset] [(.int (3 : Int32)), (.int (p0.toInt8.toInt32))])) _
          refine XS.icmpYes X0.here hx rfl (pc0 := 29) (pc' := 39) rfl (hb hby at_29) rfl (feq hc29_48).2 (by decide) (by decide) ?_
          show Steps p.tables e below (s₁.setTop (mkF m 39 #[.val (.int p0), .val (.int (p0.toInt8.toInt32)), .unset] [])) _
          refine XS.iloadN X0.here hx rfl (hb hby at_39) rfl ?_
          show Steps p.tables e below (s₁.setTop (mkF m 40 #[.val (.int p0), .val (.int (p0.toInt8.toInt32)), .unset] [(.int (p0.toInt8.toInt32))])) _
          refine XS.iconst X0.here hx rfl (hb hby at_40) ?_
          exact kt
        by_cases hc41_71 : (p0.toInt8.toInt32) = (4 : Int32)
        · skip
          obtain ⟨T72, X72, e72, st72⟩ := getS2 X0 hx hZ hown (host := "") (Or.inl (hw _ (List.mem_of_getElem? (i := 33) rfl))) Via.refl e0 S_STATIC_BROKER_SETTING (g := (mkF m 44 #[.val (.int p0), .val (.int (p0.toInt8.toInt32)), .unset] [])) rfl (hb hby at_44)
          obtain ⟨_, _, ⟨T73, L73, k73, n73⟩, -, X73, ⟨Lc73, hQ73, l73, y73, z73⟩, st73⟩ := Jvm.LawKit.callS X72 hx (y := (⟨"com/example/moffett/moffett/catalogue/ConfigSource", "of", "(B)Lcom/example/moffett/moffett/catalogue/ConfigSource;"⟩ : MethodName)) hown (mvT hZ (hw _ (List.mem_of_getElem? (i := 3) rfl))) (mvT hZ (hw _ (List.mem_of_getElem? (i := 4) rfl))) (mvT hZ (hw _ (List.mem_of_getElem? (i := 1) rfl))) (mvT hZ (hw _ (List.mem_of_getElem? (i := 5) rfl))) (by decide) (backOf (W := 0) (rm1 l Z a0 hw [] (p0.toInt8.toInt32) va kv u0 u1 u2 u3 u4 u5 h0 n0 Z0 SV AV EV S_UNKNOWN F_TOPIC_SETTING F_PER_BROKER_SETTING F_CLUSTER_DEFAULT_SETTING F_STATIC_BROKER_SETTING F_BUILT_IN_DEFAULT F_UNKNOWN FC) hZ (hw _ (List.mem_of_getElem? (i := 5) rfl)) (hw _ (List.mem_of_getElem? (i := 1) rfl)) (by decide) (by decide)) (g := (mkF m 68 #[.val (.int p0), .val (.int (p0.toInt8.toInt32)), .val (.ref u3)] [(.int (p0.toInt8.toInt32))])) rfl (by rw [hml]; rfl) (argsL := [(.int (p0.toInt8.toInt32))]) (rest := []) (lenOf pd_1 rfl) rfl (by show 2 * 0 + _ ≤ _; exact Nat.le_of_eq rfl) (hb hby at_68) (fun _ _ => ⟨rfl, e72, (by decide : 0 + 1 ≤ _), (by decide : 0 + 6 ≤ _)⟩)
          dsimp only [Pt.U, Pt.locs, Pt.cells, Pt.slots] at X73 l73 y73 z73 st73 hQ73
          subst l73 y73 z73
          obtain ⟨rfl, N73q, E73⟩ := hQ73
          have N73 := Fr.app N0 N73q
          have f74 : Sta Z T73.heap "com/example/moffett/moffett/catalogue/ConfigSource" "$VALUES" "[Lcom/example/moffett/moffett/catalogue/ConfigSource;" (.ref va) := SV.ext E73
          have f75 : Arv Z T73.heap va kv (.object "com/example/moffett/moffett/catalogue/ConfigSource") (6 : Int32) [(.ref u0), (.ref u1), (.ref u2), (.ref u3), (.ref u4), (.ref u5)] .null := AV.ext E73
          have f76 : Exa Z T73.heap va "[Lcom/example/moffett/moffett/catalogue/ConfigSource;" := EV.ext E73
          have f77 : Sta Z T73.heap "com/example/moffett/moffett/catalogue/ConfigSource" "TOPIC_SETTING" "Lcom/example/moffett/moffett/catalogue/ConfigSource;" (.ref u0) := S_TOPIC_SETTING.ext E73
          have f78 : Sta Z T73.heap "com/example/moffett/moffett/catalogue/ConfigSource" "PER_BROKER_SETTING" "Lcom/example/moffett/moffett/catalogue/ConfigSource;" (.ref u1) := S_PER_BROKER_SETTING.ext E73
          have f79 : Sta Z T73.heap "com/example/moffett/moffett/catalogue/ConfigSource" "CLUSTER_DEFAULT_SETTING" "Lcom/example/moffett/moffett/catalogue/ConfigSource;" (.ref u2) := S_CLUSTER_DEFAULT_SETTING.ext E73
          have f80 : Sta Z T73.heap "com/example/moffett/moffett/catalogue/ConfigSource" "STATIC_BROKER_SETTING" "Lcom/example/moffett/moffett/catalogue/ConfigSource;" (.ref u3) := S_STATIC_BROKER_SETTING.ext E73
          have f81 : Sta Z T73.heap "com/example/moffett/moffett/catalogue/ConfigSource" "BUILT_IN_DEFAULT" "Lcom/example/moffett/moffett/catalogue/ConfigSource;" (.ref u4) := S_BUILT_IN_DEFAULT.ext E73
          have f82 : Sta Z T73.heap "com/example/moffett/moffett/catalogue/ConfigSource" "UNKNOWN" "Lcom/example/moffett/moffett/catalogue/ConfigSource;" (.ref u5) := S_UNKNOWN.ext E73
          have f83 : Fld Z T73.heap u0 "com/example/moffett/moffett/catalogue/ConfigSource" "id" "B" (.int (1 : Int32)) := F_TOPIC_SETTING.ext E73
          have f84 : Fld Z T73.heap u1 "com/example/moffett/moffett/catalogue/ConfigSource" "id" "B" (.int (2 : Int32)) := F_PER_BROKER_SETTING.ext E73
          have f85 : Fld Z T73.heap u2 "com/example/moffett/moffett/catalogue/ConfigSource" "id" "B" (.int (3 : Int32)) := F_CLUSTER_DEFAULT_SETTING.ext E73
          have f86 : Fld Z T73.heap u3 "com/example/moffett/moffett/catalogue/ConfigSource" "id" "B" (.int (4 : Int32)) := F_STATIC_BROKER_SETTING.ext E73
          have f87 : Fld Z T73.heap u4 "com/example/moffett/moffett/catalogue/ConfigSource" "id" "B" (.int (5 : Int32)) := F_BUILT_IN_DEFAULT.ext E73
          have f88 : Fld Z T73.heap u5 "com/example/moffett/moffett/catalogue/ConfigSource" "id" "B" (.int (0 : Int32)) := F_UNKNOWN.ext E73
          have z89 : n0 ≤ T73.heap.size := Nat.le_trans Z0 E73.1
          have kp90 : Keep h0 T73.heap [] := kp0.ext E73
          have G91 : ∀ t, Steps p.tables e below (T73.setTop (mkF m 72 #[.val (.int p0), .val (.int (p0.toInt8.toInt32)), .val (.ref u3)] [(.ref u3), (.ref (fof (p0.toInt8.toInt32) u0 u1 u2 u3 u4 u5))])) t → Steps p.tables e below (s₁.setTop (entryFrame m #[(.int p0)] maxLocals)) t := by
            intro t kt
            refine G70 _ ?_
            show Steps p.tables e below (s₁.setTop (mkF m 41 #[.val (.int p0), .val (.int (p0.toInt8.toInt32)), .unset] [(.int (4 : Int32)), (.int (p0.toInt8.toInt32))])) _
            refine XS.icmpNo X0.here hx rfl (hb hby at_41) rfl (teq hc41_71).2 ?_
            show Steps p.tables e below (s₁.setTop (mkF m 44 #[.val (.int p0), .val (.int (p0.toInt8.toInt32)), .unset] [])) _
            refine st72 _ ?_
            show Steps p.tables e below (T72.setTop (mkF m 47 #[.val (.int p0), .val (.int (p0.toInt8.toInt32)), .unset] [(.ref u3)])) _
            refine XS.astoreN X72.here hx rfl (hb hby at_47) rfl rfl (l' := #[.val (.int p0), .val (.int (p0.toInt8.toInt32)), .val (.ref u3)]) rfl ?_
            show Steps p.tables e below (T72.setTop (mkF m 48 #[.val (.int p0), .val (.int (p0.toInt8.toInt32)), .val (.ref u3)] [])) _
            refine XS.goto X72.here hx rfl (pc0 := 48) (pc' := 67) rfl (hb hby at_48) (by decide) (by decide) ?_
            show Steps p.tables e below (T72.setTop (mkF m 67 #[.val (.int p0), .val (.int (p0.toInt8.toInt32)), .val (.ref u3)] [])) _
            refine XS.iloadN X72.here hx rfl (hb hby at_67) rfl ?_
            show Steps p.tables e below (T72.setTop (mkF m 68 #[.val (.int p0), .val (.int (p0.toInt8.toInt32)), .val (.ref u3)] [(.int (p0.toInt8.toInt32))])) _
            refine st73 _ ?_
            show Steps p.tables e below (T73.setTop (mkF m 71 #[.val (.int p0), .val (.int (p0.toInt8.toInt32)), .val (.ref u3)] [(.ref (fof (p0.toInt8.toInt32) u0 u1 u2 u3 u4 u5))])) _
            refine XS.aloadN X73.here hx rfl (hb hby at_71) rfl rfl ?_
            exact kt
          have hc72_92 : (fof (p0.toInt8.toInt32) u0 u1 u2 u3 u4 u5) = u3 := by rw [fof, if_neg (Ne.symm hc5_2), if_neg (Ne.symm hc17_25), if_neg (Ne.symm hc29_48), if_pos (Eq.symm hc41_71)]
          obtain ⟨fs, hr, hrun, hended, hW, hsame⟩ := X73.leave (v := some (.int (1 : Int32))) (fun h => by rw [Bd.returns] at h; cases h)
          refine ⟨_, _, G91 _ ?_, hrun, hended, _, _, rfl, ?_, ⟨_, rfl⟩, hW, hsame.mono (by decide) (by decide)⟩
          · skip
            show Steps p.tables e below (T73.setTop (mkF m 72 #[.val (.int p0), .val (.int (p0.toInt8.toInt32)), .val (.ref u3)] [(.ref u3), (.ref (fof (p0.toInt8.toInt32) u0 u1 u2 u3 u4 u5))])) _
            refine Jvm.RoadKit.acmp (g := (mkF m 72 #[.val (.int p0), .val (.int (p0.toInt8.toInt32)), .val (.ref u3)] [(.ref u3), (.ref (fof (p0.toInt8.toInt32) u0 u1 u2 u3 u4 u5))])) X73 hx rfl rfl rfl (pc0 := 72) (pc' := 75) (same := true) rfl (hb hby at_72) rfl (decide_eq_true (congrArg Value.ref hc72_92)) (by decide) (by decide) ?_
            show Steps p.tables e below (T73.setTop (mkF m 75 #[.val (.int p0), .val (.int (p0.toInt8.toInt32)), .val (.ref u3)] [])) _
            refine XS.iconst X73.here hx rfl (hb hby at_75) ?_
            show Steps p.tables e below (T73.setTop (mkF m 76 #[.val (.int p0), .val (.int (p0.toInt8.toInt32)), .val (.ref u3)] [(.int (1 : Int32))])) _
            refine XS.goto X73.here hx rfl (pc0 := 76) (pc' := 80) rfl (hb hby at_76) (by decide) (by decide) ?_
            show Steps p.tables e below (T73.setTop (mkF m 80 #[.val (.int p0), .val (.int (p0.toInt8.toInt32)), .val (.ref u3)] [(.int (1 : Int32))])) _
            exact retN X73 hx (t := .boolean) Bd.returns (by simp) (hb hby at_80) hr
          · show Q0 Z p0 va kv u0 u1 u2 u3 u4 u5 h0 n0 _ T73.heap _
            exact ⟨rfl, N73⟩
        · skip
          have G93 : ∀ t, Steps p.tables e below (s₁.setTop (mkF m 53 #[.val (.int p0), .val (.int (p0.toInt8.toInt32)), .unset] [(.int (5 : Int32)), (.int (p0.toInt8.toInt32))])) t → Steps p.tables e below (s₁.setTop (entryFrame m #[(.int p0)] maxLocals)) t := by
            intro t kt
            refine G70 _ ?_
            show Steps p.tables e below (s₁.setTop (mkF m 41 #[.val (.int p0), .val (.int (p0.toInt8.toInt32)), .unset] [(.int (4 : Int32)), (.int (p0.toInt8.toInt32))])) _
            refine XS.icmpYes X0.here hx rfl (pc0 := 41) (pc' := 51) rfl (hb hby at_41) rfl (feq hc41_71).2 (by decide) (by decide) ?_
            show Steps p.tables e below (s₁.setTop (mkF m 51 #[.val (.int p0), .val (.int (p0.toInt8.toInt32)), .unset] [])) _
            refine XS.iloadN X0.here hx rfl (hb hby at_51) rfl ?_
            show Steps p.tables e below (s₁.setTop (mkF m 52 #[.val (.int p0), .val (.int (p0.toInt8.toInt32)), .unset] [(.int (p0.toInt8.toInt32))])) _
            refine XS.iconst X0.here hx rfl (hb hby at_52) ?_
            exact kt
          by_cases hc53_94 : (p0.toInt8.toInt32) = (5 : Int32)
          · skip
            obtain ⟨T95, X95, e95, st95⟩ := getS2 X0 hx hZ hown (host := "") (Or.inl (hw _ (List.mem_of_getElem? (i := 32) rfl))) Via.refl e0 S_BUILT_IN_DEFAULT (g := (mkF m 56 #[.val (.int p0), .val (.int (p0.toInt8.toInt32)), .unset] [])) rfl (hb hby at_56)
            obtain ⟨_, _, ⟨T96, L96, k96, n96⟩, -, X96, ⟨Lc96, hQ96, l96, y96, z96⟩, st96⟩ := Jvm.LawKit.callS X95 hx (y := (⟨"com/example/moffett/moffett/catalogue/ConfigSource", "of", "(B)Lcom/example/moffett/moffett/catalogue/ConfigSource;"⟩ : MethodName)) hown (mvT hZ (hw _ (List.mem_of_getElem? (i := 3) rfl))) (mvT hZ (hw _ (List.mem_of_getElem? (i := 4) rfl))) (mvT hZ (hw _ (List.mem_of_getElem? (i := 1) rfl))) (mvT hZ (hw _ (List.mem_of_getElem? (i := 5) rfl))) (by decide) (backOf (W := 0) (rm1 l Z a0 hw [] (p0.toInt8.toInt32) va kv u0 u1 u2 u3 u4 u5 h0 n0 Z0 SV AV EV S_UNKNOWN F_TOPIC_SETTING F_PER_BROKER_SETTING F_CLUSTER_DEFAULT_SETTING F_STATIC_BROKER_SETTING F_BUILT_IN_DEFAULT F_UNKNOWN FC) hZ (hw _ (List.mem_of_getElem? (i := 5) rfl)) (hw _ (List.mem_of_getElem? (i := 1) rfl)) (by decide) (by decide)) (g := (mkF m 68 #[.val (.int p0), .val (.int (p0.toInt8.toInt32)), .val (.ref u4)] [(.int (p0.toInt8.toInt32))])) rfl (by rw [hml]; rfl) (argsL := [(.int (p0.toInt8.toInt32))]) (rest := []) (lenOf pd_1 rfl) rfl (by show 2 * 0 + _ ≤ _; exact Nat.le_of_eq rfl) (hb hby at_68) (fun _ _ => ⟨rfl, e95, (by decide : 0 + 1 ≤ _), (by decide : 0 + 6 ≤ _)⟩)
            dsimp only [Pt.U, Pt.locs, Pt.cells, Pt.slots] at X96 l96 y96 z96 st96 hQ96
            subst l96 y96 z96
            obtain ⟨rfl, N96q, E96⟩ := hQ96
            have N96 := Fr.app N0 N96q
            have f97 : Sta Z T96.heap "com/example/moffett/moffett/catalogue/ConfigSource" "$VALUES" "[Lcom/example/moffett/moffett/catalogue/ConfigSource;" (.ref va) := SV.ext E96
            have f98 : Arv Z T96.heap va kv (.object "com/example/moffett/moffett/catalogue/ConfigSource") (6 : Int32) [(.ref u0), (.ref u1), (.ref u2), (.ref u3), (.ref u4), (.ref u5)] .null := AV.ext E96
            have f99 : Exa Z T96.heap va "[Lcom/example/moffett/moffett/catalogue/ConfigSource;" := EV.ext E96
            have f100 : Sta Z T96.heap "com/example/moffett/moffett/catalogue/ConfigSource" "TOPIC_SETTING" "Lcom/example/moffett/moffett/catalogue/ConfigSource;" (.ref u0) := S_TOPIC_SETTING.ext E96
            have f101 : Sta Z T96.heap "com/example/moffett/moffett/catalogue/ConfigSource" "PER_BROKER_SETTING" "Lcom/example/moffett/moffett/catalogue/ConfigSource;" (.ref u1) := S_PER_BROKER_SETTING.ext E96
            have f102 : Sta Z T96.heap "com/example/moffett/moffett/catalogue/ConfigSource" "CLUSTER_DEFAULT_SETTING" "Lcom/example/moffett/moffett/catalogue/ConfigSource;" (.ref u2) := S_CLUSTER_DEFAULT_SETTING.ext E96
            have f103 : Sta Z T96.heap "com/example/moffett/moffett/catalogue/ConfigSource" "STATIC_BROKER_SETTING" "Lcom/example/moffett/moffett/catalogue/ConfigSource;" (.ref u3) := S_STATIC_BROKER_SETTING.ext E96
            have f104 : Sta Z T96.heap "com/example/moffett/moffett/catalogue/ConfigSource" "BUILT_IN_DEFAULT" "Lcom/example/moffett/moffett/catalogue/ConfigSource;" (.ref u4) := S_BUILT_IN_DEFAULT.ext E96
            have f105 : Sta Z T96.heap "com/example/moffett/moffett/catalogue/ConfigSource" "UNKNOWN" "Lcom/example/moffett/moffett/catalogue/ConfigSource;" (.ref u5) := S_UNKNOWN.ext E96
            have f106 : Fld Z T96.heap u0 "com/example/moffett/moffett/catalogue/ConfigSource" "id" "B" (.int (1 : Int32)) := F_TOPIC_SETTING.ext E96
            have f107 : Fld Z T96.heap u1 "com/example/moffett/moffett/catalogue/ConfigSource" "id" "B" (.int (2 : Int32)) := F_PER_BROKER_SETTING.ext E96
            have f108 : Fld Z T96.heap u2 "com/example/moffett/moffett/catalogue/ConfigSource" "id" "B" (.int (3 : Int32)) := F_CLUSTER_DEFAULT_SETTING.ext E96
            have f109 : Fld Z T96.heap u3 "com/example/moffett/moffett/catalogue/ConfigSource" "id" "B" (.int (4 : Int32)) := F_STATIC_BROKER_SETTING.ext E96
            have f110 : Fld Z T96.heap u4 "com/example/moffett/moffett/catalogue/ConfigSource" "id" "B" (.int (5 : Int32)) := F_BUILT_IN_DEFAULT.ext E96
            have f111 : Fld Z T96.heap u5 "com/example/moffett/moffett/catalogue/ConfigSource" "id" "B" (.int (0 : Int32)) := F_UNKNOWN.ext E96
            have z112 : n0 ≤ T96.heap.size := Nat.le_trans Z0 E96.1
            have kp113 : Keep h0 T96.heap [] := kp0.ext E96
            have G114 : ∀ t, Steps p.tables e below (T96.setTop (mkF m 72 #[.val (.int p0), .val (.int (p0.toInt8.toInt32)), .val (.ref u4)] [(.ref u4), (.ref (fof (p0.toInt8.toInt32) u0 u1 u2 u3 u4 u5))])) t → Steps p.tables e below (s₁.setTop (entryFrame m #[(.int p0)] maxLocals)) t := by
              intro t kt
              refine G93 _ ?_
              show Steps p.tables e below (s₁.setTop (mkF m 53 #[.val (.int p0), .val (.int (p0.toInt8.toInt32)), .unset] [(.int (5 : Int32)), (.int (p0.toInt8.toInt32))])) _
              refine XS.icmpNo X0.here hx rfl (hb hby at_53) rfl (teq hc53_94).2 ?_
              show Steps p.tables e below (s₁.setTop (mkF m 56 #[.val (.int p0), .val (.int (p0.toInt8.toInt32)), .unset] [])) _
              refine st95 _ ?_
              show Steps p.tables e below (T95.setTop (mkF m 59 #[.val (.int p0), .val (.int (p0.toInt8.toInt32)), .unset] [(.ref u4)])) _
              refine XS.astoreN X95.here hx rfl (hb hby at_59) rfl rfl (l' := #[.val (.int p0), .val (.int (p0.toInt8.toInt32)), .val (.ref u4)]) rfl ?_
              show Steps p.tables e below (T95.setTop (mkF m 60 #[.val (.int p0), .val (.int (p0.toInt8.toInt32)), .val (.ref u4)] [])) _
              refine XS.goto X95.here hx rfl (pc0 := 60) (pc' := 67) rfl (hb hby at_60) (by decide) (by decide) ?_
              show Steps p.tables e below (T95.setTop (mkF m 67 #[.val (.int p0), .val (.int (p0.toInt8.toInt32)), .val (.ref u4)] [])) _
              refine XS.iloadN X95.here hx rfl (hb hby at_67) rfl ?_
              show Steps p.tables e below (T95.setTop (mkF m 68 #[.val (.int p0), .val (.int (p0.toInt8.toInt32)), .val (.ref u4)] [(.int (p0.toInt8.toInt32))])) _
              refine st96 _ ?_
              show Steps p.tables e below (T96.setTop (mkF m 71 #[.val (.int p0), .val (.int (p0.toInt8.toInt32)), .val (.ref u4)] [(.ref (fof (p0.toInt8.toInt32) u0 u1 u2 u3 u4 u5))])) _
              refine XS.aloadN X96.here hx rfl (hb hby at_71) rfl rfl ?_
              exact kt
            have hc72_115 : (fof (p0.toInt8.toInt32) u0 u1 u2 u3 u4 u5) = u4 := by rw [fof, if_neg (Ne.symm hc5_2), if_neg (Ne.symm hc17_25), if_neg (Ne.symm hc29_48), if_neg (Ne.symm hc41_71), if_pos (Eq.symm hc53_94)]
            obtain ⟨fs, hr, hrun, hended, hW, hsame⟩ := X96.leave (v := some (.int (1 : Int32))) (fun h => by rw [Bd.returns] at h; cases h)
            refine ⟨_, _, G114 _ ?_, hrun, hended, _, _, rfl, ?_, ⟨_, rfl⟩, hW, hsame.mono (by decide) (by decide)⟩
            · skip
              show Steps p.tables e below (T96.setTop (mkF m 72 #[.val (.int p0), .val (.int (p0.toInt8.toInt32)), .val (.ref u4)] [(.ref u4), (.ref (fof (p0.toInt8.toInt32) u0 u1 u2 u3 u4 u5))])) _
              refine Jvm.RoadKit.acmp (g := (mkF m 72 #[.val (.int p0), .val (.int (p0.toInt8.toInt32)), .val (.ref u4)] [(.ref u4), (.ref (fof (p0.toInt8.toInt32) u0 u1 u2 u3 u4 u5))])) X96 hx rfl rfl rfl (pc0 := 72) (pc' := 75) (same := true) rfl (hb hby at_72) rfl (decide_eq_true (congrArg Value.ref hc72_115)) (by decide) (by decide) ?_
              show Steps p.tables e below (T96.setTop (mkF m 75 #[.val (.int p0), .val (.int (p0.toInt8.toInt32)), .val (.ref u4)] [])) _
              refine XS.iconst X96.here hx rfl (hb hby at_75) ?_
              show Steps p.tables e below (T96.setTop (mkF m 76 #[.val (.int p0), .val (.int (p0.toInt8.toInt32)), .val (.ref u4)] [(.int (1 : Int32))])) _
              refine XS.goto X96.here hx rfl (pc0 := 76) (pc' := 80) rfl (hb hby at_76) (by decide) (by decide) ?_
              show Steps p.tables e below (T96.setTop (mkF m 80 #[.val (.int p0), .val (.int (p0.toInt8.toInt32)), .val (.ref u4)] [(.int (1 : Int32))])) _
              exact retN X96 hx (t := .boolean) Bd.returns (by simp) (hb hby at_80) hr
            · show Q0 Z p0 va kv u0 u1 u2 u3 u4 u5 h0 n0 _ T96.heap _
              exact ⟨rfl, N96⟩
          · skip
            obtain ⟨T116, X116, e116, st116⟩ := getS2 X0 hx hZ hown (host := "") (Or.inl (hw _ (List.mem_of_getElem? (i := 0) rfl))) Via.refl e0 S_UNKNOWN (g := (mkF m 63 #[.val (.int p0), .val (.int (p0.toInt8.toInt32)), .unset] [])) rfl (hb hby at_63)
            obtain ⟨_, _, ⟨T117, L117, k117, n117⟩, -, X117, ⟨Lc117, hQ117, l117, y117, z117⟩, st117⟩ := Jvm.LawKit.callS X116 hx (y := (⟨"com/example/moffett/moffett/catalogue/ConfigSource", "of", "(B)Lcom/example/moffett/moffett/catalogue/ConfigSource;"⟩ : MethodName)) hown (mvT hZ (hw _ (List.mem_of_getElem? (i := 3) rfl))) (mvT hZ (hw _ (List.mem_of_getElem? (i := 4) rfl))) (mvT hZ (hw _ (List.mem_of_getElem? (i := 1) rfl))) (mvT hZ (hw _ (List.mem_of_getElem? (i := 5) rfl))) (by decide) (backOf (W := 0) (rm1 l Z a0 hw [] (p0.toInt8.toInt32) va kv u0 u1 u2 u3 u4 u5 h0 n0 Z0 SV AV EV S_UNKNOWN F_TOPIC_SETTING F_PER_BROKER_SETTING F_CLUSTER_DEFAULT_SETTING F_STATIC_BROKER_SETTING F_BUILT_IN_DEFAULT F_UNKNOWN FC) hZ (hw _ (List.mem_of_getElem? (i := 5) rfl)) (hw _ (List.mem_of_getElem? (i := 1) rfl)) (by decide) (by decide)) (g := (mkF m 68 #[.val (.int p0), .val (.int (p0.toInt8.toInt32)), .val (.ref u5)] [(.int (p0.toInt8.toInt32))])) rfl (by rw [hml]; rfl) (argsL := [(.int (p0.toInt8.toInt32))]) (rest := []) (lenOf pd_1 rfl) rfl (by show 2 * 0 + _ ≤ _; exact Nat.le_of_eq rfl) (hb hby at_68) (fun _ _ => ⟨rfl, e116, (by decide : 0 + 1 ≤ _), (by decide : 0 + 6 ≤ _)⟩)
            dsimp only [Pt.U, Pt.locs, Pt.cells, Pt.slots] at X117 l117 y117 z117 st117 hQ117
            subst l117 y117 z117
            obtain ⟨rfl, N117q, E117⟩ := hQ117
            have N117 := Fr.app N0 N117q
            have f118 : Sta Z T117.heap "com/example/moffett/moffett/catalogue/ConfigSource" "$VALUES" "[Lcom/example/moffett/moffett/catalogue/ConfigSource;" (.ref va) := SV.ext E117
            have f119 : Arv Z T117.heap va kv (.object "com/example/moffett/moffett/catalogue/ConfigSource") (6 : Int32) [(.ref u0), (.ref u1), (.ref u2), (.ref u3), (.ref u4), (.ref u5)] .null := AV.ext E117
            have f120 : Exa Z T117.heap va "[Lcom/example/moffett/moffett/catalogue/ConfigSource;" := EV.ext E117
            have f121 : Sta Z T117.heap "com/example/moffett/moffett/catalogue/ConfigSource" "TOPIC_SETTING" "Lcom/example/moffett/moffett/catalogue/ConfigSource;" (.ref u0) := S_TOPIC_SETTING.ext E117
            have f122 : Sta Z T117.heap "com/example/moffett/moffett/catalogue/ConfigSource" "PER_BROKER_SETTING" "Lcom/example/moffett/moffett/catalogue/ConfigSource;" (.ref u1) := S_PER_BROKER_SETTING.ext E117
            have f123 : Sta Z T117.heap "com/example/moffett/moffett/catalogue/ConfigSource" "CLUSTER_DEFAULT_SETTING" "Lcom/example/moffett/moffett/catalogue/ConfigSource;" (.ref u2) := S_CLUSTER_DEFAULT_SETTING.ext E117
            have f124 : Sta Z T117.heap "com/example/moffett/moffett/catalogue/ConfigSource" "STATIC_BROKER_SETTING" "Lcom/example/moffett/moffett/catalogue/ConfigSource;" (.ref u3) := S_STATIC_BROKER_SETTING.ext E117
            have f125 : Sta Z T117.heap "com/example/moffett/moffett/catalogue/ConfigSource" "BUILT_IN_DEFAULT" "Lcom/example/moffett/moffett/catalogue/ConfigSource;" (.ref u4) := S_BUILT_IN_DEFAULT.ext E117
            have f126 : Sta Z T117.heap "com/example/moffett/moffett/catalogue/ConfigSource" "UNKNOWN" "Lcom/example/moffett/moffett/catalogue/ConfigSource;" (.ref u5) := S_UNKNOWN.ext E117
            have f127 : Fld Z T117.heap u0 "com/example/moffett/moffett/catalogue/ConfigSource" "id" "B" (.int (1 : Int32)) := F_TOPIC_SETTING.ext E117
            have f128 : Fld Z T117.heap u1 "com/example/moffett/moffett/catalogue/ConfigSource" "id" "B" (.int (2 : Int32)) := F_PER_BROKER_SETTING.ext E117
            have f129 : Fld Z T117.heap u2 "com/example/moffett/moffett/catalogue/ConfigSource" "id" "B" (.int (3 : Int32)) := F_CLUSTER_DEFAULT_SETTING.ext E117
            have f130 : Fld Z T117.heap u3 "com/example/moffett/moffett/catalogue/ConfigSource" "id" "B" (.int (4 : Int32)) := F_STATIC_BROKER_SETTING.ext E117
            have f131 : Fld Z T117.heap u4 "com/example/moffett/moffett/catalogue/ConfigSource" "id" "B" (.int (5 : Int32)) := F_BUILT_IN_DEFAULT.ext E117
            have f132 : Fld Z T117.heap u5 "com/example/moffett/moffett/catalogue/ConfigSource" "id" "B" (.int (0 : Int32)) := F_UNKNOWN.ext E117
            have z133 : n0 ≤ T117.heap.size := Nat.le_trans Z0 E117.1
            have kp134 : Keep h0 T117.heap [] := kp0.ext E117
            have G135 : ∀ t, Steps p.tables e below (T117.setTop (mkF m 72 #[.val (.int p0), .val (.int (p0.toInt8.toInt32)), .val (.ref u5)] [(.ref u5), (.ref (fof (p0.toInt8.toInt32) u0 u1 u2 u3 u4 u5))])) t → Steps p.tables e below (s₁.setTop (entryFrame m #[(.int p0)] maxLocals)) t := by
              intro t kt
              refine G93 _ ?_
              show Steps p.tables e below (s₁.setTop (mkF m 53 #[.val (.int p0), .val (.int (p0.toInt8.toInt32)), .unset] [(.int (5 : Int32)), (.int (p0.toInt8.toInt32))])) _
              refine XS.icmpYes X0.here hx rfl (pc0 := 53) (pc' := 63) rfl (hb hby at_53) rfl (feq hc53_94).2 (by decide) (by decide) ?_
              show Steps p.tables e below (s₁.setTop (mkF m 63 #[.val (.int p0), .val (.int (p0.toInt8.toInt32)), .unset] [])) _
              refine st116 _ ?_
              show Steps p.tables e below (T116.setTop (mkF m 66 #[.val (.int p0), .val (.int (p0.toInt8.toInt32)), .unset] [(.ref u5)])) _
              refine XS.astoreN X116.here hx rfl (hb hby at_66) rfl rfl (l' := #[.val (.int p0), .val (.int (p0.toInt8.toInt32)), .val (.ref u5)]) rfl ?_
              show Steps p.tables e below (T116.setTop (mkF m 67 #[.val (.int p0), .val (.int (p0.toInt8.toInt32)), .val (.ref u5)] [])) _
              refine XS.iloadN X116.here hx rfl (hb hby at_67) rfl ?_
              show Steps p.tables e below (T116.setTop (mkF m 68 #[.val (.int p0), .val (.int (p0.toInt8.toInt32)), .val (.ref u5)] [(.int (p0.toInt8.toInt32))])) _
              refine st117 _ ?_
              show Steps p.tables e below (T117.setTop (mkF m 71 #[.val (.int p0), .val (.int (p0.toInt8.toInt32)), .val (.ref u5)] [(.ref (fof (p0.toInt8.toInt32) u0 u1 u2 u3 u4 u5))])) _
              refine XS.aloadN X117.here hx rfl (hb hby at_71) rfl rfl ?_
              exact kt
            have hc72_136 : (fof (p0.toInt8.toInt32) u0 u1 u2 u3 u4 u5) = u5 := by rw [fof, if_neg (Ne.symm hc5_2), if_neg (Ne.symm hc17_25), if_neg (Ne.symm hc29_48), if_neg (Ne.symm hc41_71), if_neg (Ne.symm hc53_94), ite_self]
            obtain ⟨fs, hr, hrun, hended, hW, hsame⟩ := X117.leave (v := some (.int (1 : Int32))) (fun h => by rw [Bd.returns] at h; cases h)
            refine ⟨_, _, G135 _ ?_, hrun, hended, _, _, rfl, ?_, ⟨_, rfl⟩, hW, hsame.mono (by decide) (by decide)⟩
            · skip
              show Steps p.tables e below (T117.setTop (mkF m 72 #[.val (.int p0), .val (.int (p0.toInt8.toInt32)), .val (.ref u5)] [(.ref u5), (.ref (fof (p0.toInt8.toInt32) u0 u1 u2 u3 u4 u5))])) _
              refine Jvm.RoadKit.acmp (g := (mkF m 72 #[.val (.int p0), .val (.int (p0.toInt8.toInt32)), .val (.ref u5)] [(.ref u5), (.ref (fof (p0.toInt8.toInt32) u0 u1 u2 u3 u4 u5))])) X117 hx rfl rfl rfl (pc0 := 72) (pc' := 75) (same := true) rfl (hb hby at_72) rfl (decide_eq_true (congrArg Value.ref hc72_136)) (by decide) (by decide) ?_
              show Steps p.tables e below (T117.setTop (mkF m 75 #[.val (.int p0), .val (.int (p0.toInt8.toInt32)), .val (.ref u5)] [])) _
              refine XS.iconst X117.here hx rfl (hb hby at_75) ?_
              show Steps p.tables e below (T117.setTop (mkF m 76 #[.val (.int p0), .val (.int (p0.toInt8.toInt32)), .val (.ref u5)] [(.int (1 : Int32))])) _
              refine XS.goto X117.here hx rfl (pc0 := 76) (pc' := 80) rfl (hb hby at_76) (by decide) (by decide) ?_
              show Steps p.tables e below (T117.setTop (mkF m 80 #[.val (.int p0), .val (.int (p0.toInt8.toInt32)), .val (.ref u5)] [(.int (1 : Int32))])) _
              exact retN X117 hx (t := .boolean) Bd.returns (by simp) (hb hby at_80) hr
            · show Q0 Z p0 va kv u0 u1 u2 u3 u4 u5 h0 n0 _ T117.heap _
              exact ⟨rfl, N117⟩
theorem own_eqI {args : Array Value} {s : State} {t : Term} {k : Int32} (h : (Jvm.Cond.eq t (Jvm.Term.int k)).value args s none s [] = some true) : t.eval args s none [] s = some (.int k) := by
  simp only [Cond.value, Term.eval] at h
  cases ht : t.eval args s none [] s with
  | none => simp [ht] at h
  | some x => cases x <;> simp [ht] at h ⊢; exact h
theorem own_eqR {args : Array Value} {s : State} {t t2 : Term} {u : Addr} (h : (Jvm.Cond.eq t t2).value args s none s [] = some true) (e : t2.eval args s none [] s = some (.ref u)) : t.eval args s none [] s = some (.ref u) := by
  simp only [Cond.value, e] at h
  cases ht : t.eval args s none [] s with
  | none => simp [ht] at h
  | some x => cases x <;> simp [ht] at h ⊢; exact h
theorem own_len {args : Array Value} {s : State} {t : Term} {x : Addr} {cl : Cell} {k : Int32} (h : (Term.length t).eval args s none [] s = some (.int k)) (ht : t.eval args s none [] s = some (.ref x)) (ha : s.arrayAt? x = some cl) : cl.slots.size < 2 ^ 31 ∧ cl.slots.size.toInt32 = k := by
  by_cases hl : cl.slots.size < 2 ^ 31
  · rw [len_f ht ha hl] at h
    exact ⟨hl, Value.int.inj (Option.some.inj h)⟩
  · exfalso
    simp [Term.eval, ht, ha, hl] at h
set_option maxRecDepth 65536 in
set_option maxHeartbeats 40000000 in
theorem comes_1 {Post : Tables → Env → Array Value → State → Outcome → State → Prop} (hpost : ∀ tb e args s v u, (limb_1_1.after args s (.returned v) u = true ∧ limb_1_2.after args s (.returned v) u = true ∧ True) → FrameEnd s (.returned v) u (Jvm.fieldLocs frame_1_writes args s ++ Jvm.arrayLocs frame_1_arrays args s ++ Jvm.staticLocs frame_1_statics s) 16 128 → Post tb e args s (.returned v) u) :
    ArmFor flags0 classFile x code maxLocals ret World_1 tables_1 room_1 Calls_1 rest_1 Pre_1 Post := by
  intro l hfl _ _ p e ha hc hk s m args below hf hA hF happ hP
  obtain ⟨hcalls, hrest, hpre⟩ := hP
  obtain ⟨-, -, -, hnamed, -, -, -, hat⟩ := (Spec.applies_iff hf).mp happ
  obtain ⟨hg, hn⟩ := and_e (Cond.before_iff.mp (show (Jvm.Cond.and given_1 narrow_1).before args s = true from hpre))
  obtain ⟨g1, g2⟩ := and_e hg
  obtain ⟨w0, rfl⟩ : ∃ w0 : Value, args = #[w0] := by
    have hs : args.size = 1 := by simpa [Cond.value, given_1] using g1
    obtain ⟨L⟩ := args
    match L, hs with
    | [w0], _ => exact ⟨w0, rfl⟩
  have hw := fun d (hd : d ∈ tables_1) => atoms_spec (ws := Jvm.Cond.code x code maxLocals ret :: tables_1) hat d (List.mem_cons_of_mem _ hd)
  have hfit : Fit s := fun {y c} hc i hi => by
    obtain ⟨ha, rfl⟩ := Array.getElem?_eq_some_iff.mp hc
    have q := List.all_eq_true.mp ((Array.all_eq_true_iff_forall_mem.mp hF) _ (Array.getElem_mem ha)) i (List.mem_range.mpr hi)
    simpa [Array.getElem?_eq_getElem hi] using q
  obtain ⟨i0, ei0⟩ := is_v g2
  obtain rfl : w0 = (.int i0) := Option.some.inj ei0
  obtain ⟨m1a, m1b⟩ := and_e hn
  obtain ⟨m2a, m2b⟩ := and_e m1b
  obtain ⟨m3a, m3b⟩ := and_e m2b
  obtain ⟨m4a, m4b⟩ := and_e m3b
  obtain ⟨m5a, m5b⟩ := and_e m4b
  obtain ⟨m6a, m6b⟩ := and_e m5b
  obtain ⟨m7a, m7b⟩ := and_e m6b
  obtain ⟨m8a, m8b⟩ := and_e m7b
  obtain ⟨m9a, m9b⟩ := and_e m8b
  obtain ⟨m10a, m10b⟩ := and_e m9b
  obtain ⟨m11a, m11b⟩ := and_e m10b
  obtain ⟨m12a, m12b⟩ := and_e m11b
  obtain ⟨m13a, m13b⟩ := and_e m12b
  obtain ⟨m14a, m14b⟩ := and_e m13b
  obtain ⟨m15a, m15b⟩ := and_e m14b
  obtain ⟨m16a, m16b⟩ := and_e m15b
  obtain ⟨m17a, m17b⟩ := and_e m16b
  obtain ⟨m18a, m18b⟩ := and_e m17b
  obtain ⟨m19a, m19b⟩ := and_e m18b
  obtain ⟨m20a, m20b⟩ := and_e m19b
  obtain ⟨u0, ev0⟩ := exa_v m5a
  have S0 := Sta.start ev0 (Or.inr ⟨(hw _ (List.mem_of_getElem? (i := 1) rfl)), (hw _ (List.mem_of_getElem? (i := 18) rfl))⟩)
  have F0 := Fld.start ((fld_at ev0).symm.trans (own_eqI m16a))
  obtain ⟨u1, ev1⟩ := exa_v m7a
  have S1 := Sta.start ev1 (Or.inr ⟨(hw _ (List.mem_of_getElem? (i := 1) rfl)), (hw _ (List.mem_of_getElem? (i := 19) rfl))⟩)
  have F1 := Fld.start ((fld_at ev1).symm.trans (own_eqI m17a))
  obtain ⟨u2, ev2⟩ := exa_v m9a
  have S2 := Sta.start ev2 (Or.inr ⟨(hw _ (List.mem_of_getElem? (i := 1) rfl)), (hw _ (List.mem_of_getElem? (i := 20) rfl))⟩)
  have F2 := Fld.start ((fld_at ev2).symm.trans (own_eqI m18a))
  obtain ⟨u3, ev3⟩ := exa_v m11a
  have S3 := Sta.start ev3 (Or.inr ⟨(hw _ (List.mem_of_getElem? (i := 1) rfl)), (hw _ (List.mem_of_getElem? (i := 21) rfl))⟩)
  have F3 := Fld.start ((fld_at ev3).symm.trans (own_eqI m19a))
  obtain ⟨u4, ev4⟩ := exa_v m13a
  have S4 := Sta.start ev4 (Or.inr ⟨(hw _ (List.mem_of_getElem? (i := 1) rfl)), (hw _ (List.mem_of_getElem? (i := 22) rfl))⟩)
  have F4 := Fld.start ((fld_at ev4).symm.trans (own_eqI m20a))
  obtain ⟨u5, ev5⟩ := exa_v m1a
  have S5 := Sta.start ev5 (Or.inr ⟨(hw _ (List.mem_of_getElem? (i := 1) rfl)), (hw _ (List.mem_of_getElem? (i := 2) rfl))⟩)
  have F5 := Fld.start ((fld_at ev5).symm.trans (own_eqI m20b))
  obtain ⟨va, evV⟩ := arr_v m2a
  obtain ⟨cl, AV⟩ := Arr.start evV m2a
  have EV := Exa.start evV m3a
  have SV := Sta.start evV (Or.inr ⟨(hw _ (List.mem_of_getElem? (i := 1) rfl)), (hw _ (List.mem_of_getElem? (i := 10) rfl))⟩)
  obtain ⟨lz1, lz2⟩ := own_len (own_eqI m4a) evV (AV.fin (Vm.Alike.refl _))
  have H0 : cl.slots[0]? = some (.ref u0) := (elem_in (own_eqR m6a ev0) evV (Term.int_eval _) AV.1).2
  have H1 : cl.slots[1]? = some (.ref u1) := (elem_in (own_eqR m8a ev1) evV (Term.int_eval _) AV.1).2
  have H2 : cl.slots[2]? = some (.ref u2) := (elem_in (own_eqR m10a ev2) evV (Term.int_eval _) AV.1).2
  have H3 : cl.slots[3]? = some (.ref u3) := (elem_in (own_eqR m12a ev3) evV (Term.int_eval _) AV.1).2
  have H4 : cl.slots[4]? = some (.ref u4) := (elem_in (own_eqR m14a ev4) evV (Term.int_eval _) AV.1).2
  have H5 : cl.slots[5]? = some (.ref u5) := (elem_in (own_eqR m15a ev5) evV (Term.int_eval _) AV.1).2
  have FC : ∀ cl : Cell, s.heap[va]? = some cl → FitC s cl := fun c2 h2 => by
    cases AV.1.symm.trans h2
    exact FitC.start hfit AV
  have VV : Arv s s.heap va cl.cls (.object "com/example/moffett/moffett/catalogue/ConfigSource") (6 : Int32) [(.ref u0), (.ref u1), (.ref u2), (.ref u3), (.ref u4), (.ref u5)] .null := Arv.start hfit AV lz1 lz2 (by decide) rfl ⟨H0, H1, H2, H3, H4, H5, trivial⟩
  obtain ⟨n, o, h1, h2, h3, _, L, rfl, ⟨rfl, N⟩, hq⟩ := rm0 l s _ hw tables_1 i0 va cl.cls u0 u1 u2 u3 u4 u5 s.heap s.heap.size (Nat.le_refl _) SV VV EV S0 S1 S2 S3 S4 S5 F0 F1 F2 F3 F4 F5 FC p e ha hc hk s m _ below hf ((Spec.applies_iff_loose hf).mp happ).1 ⟨rfl, State.Warmed39.refl s, rfl⟩ trivial
  refine ⟨n, _, h1, h2, h3, hpost _ _ _ _ _ _ ⟨Cond.after_iff.mpr rfl, Cond.after_iff.mpr (eq_i res_at (Term.int_eval (1)) rfl), trivial⟩ ⟨hq.1, hq.2.1, (hq.2.2.sift fun y hy => Or.inr (N y hy)).mono (by decide) (by decide)⟩⟩
theorem main_1_1 : Claimed_1_1 := comes_1 fun _ _ _ _ _ _ h hF => ⟨h.1, hF⟩
theorem main_1_2 : Claimed_1_2 := comes_1 fun _ _ _ _ _ _ h hF => ⟨h.2.1, hF⟩
end Jvm.Pilot.@@N@@
namespace Jvm.Pilot.@@N@@
open Jvm Jvm.ClassFile Sem Op Lib Jvm.Free Jvm.Stand Jvm.Pilot.@@N@@.Jvm.D
/-! MADE BY PROGRAM (witnessworld.py) out of the Statement's table words and the real class files: 13 classes; the members and pool entries that the words name. The judged class is class 1, her method 1. -/
namespace start1
open Jvm.ClassFile
def u (s : String) : CpInfo := .utf8 (stringToUtf16 s)
/-- a pool by its gaps: so many unusable entries, then the entry; so many at the end -/
def gap : Nat → List CpInfo → List CpInfo
  | 0, r => r
  | n + 1, r => .unusable :: gap n r
def poolList (es : List (Nat × CpInfo)) (last : Nat) : List CpInfo := es.foldr (fun e r => gap e.1 (e.2 :: r)) (gap last [])
def pool (es : List (Nat × CpInfo)) (last : Nat) : Array CpInfo := ⟨poolList es last⟩
def fileOf (pool : Array CpInfo) (this : Nat) (attrs : Array Attribute := #[]) (ms : Array MethodInfo := #[]) (fl : Nat := 33) (sup : Nat := 0) (ifs : Array Nat := #[]) (fds : Array FieldInfo := #[]) : ClassFile where
  minorVersion := 0
  majorVersion := 65
  constantPool := pool
  accessFlags := fl
  thisClass := this
  superClass := sup
  interfaces := ifs
  fields := fds
  methods := ms
  attributes := attrs
def plain (name : String) (sup : Option ClassId) : Class where
  name := name
  kind := .ordinary
  loader := none
  accessFlags := 33
  super := sup
  interfaces := #[]
  cf := none
  fields := #[]
  methods := #[]
  instanceTypes := #[]
  staticTypes := #[]
  resolved := #[]
  callSites := []
  init := .initialized
  statics := none
  mirror := none

def pool0 : Array CpInfo := pool [(5, u "<init>"), (0, u "()V"), (1, .class_ 10), (1, u "java/lang/Object"), (85, u "clone"), (0, u "()Ljava/lang/Object;")] 26

def k0m0 : Method := { name := "<init>", desc := "()V", sig := { parameters := [], returnType := none }, accessFlags := 1, code := none }
def k0m1 : Method := { name := "clone", desc := "()Ljava/lang/Object;", sig := { parameters := [], returnType := some (.object "java/lang/Object") }, accessFlags := 260, code := none }
/-- java/lang/Object -/
def k0 : Class := { plain "java/lang/Object" none with
  accessFlags := 33
  interfaces := #[]
  cf := some (fileOf pool0 8 #[] #[{ accessFlags := 1, nameIndex := 5, descriptorIndex := 6, attributes := #[] }, { accessFlags := 260, nameIndex := 96, descriptorIndex := 97, attributes := #[] }] 33 0 #[] #[])
  fields := #[]
  methods := #[k0m0, k0m1]
  instanceTypes := #[]
  staticTypes := #[]
  resolved := Array.replicate 124 none
  statics := none }

def pool1 : Array CpInfo := pool [(2, .class_ 4), (1, u "java/lang/Object"), (0, u "<init>"), (0, u "()V"), (0, .fieldref 8 9), (0, .class_ 10), (0, .nameAndType 11 12), (0, u "com/example/moffett/moffett/catalogue/ConfigSource"), (0, u "TOPIC_SETTING"), (0, u "Lcom/example/moffett/moffett/catalogue/ConfigSource;"), (0, .fieldref 8 14), (0, .nameAndType 15 12), (0, u "PER_BROKER_SETTING"), (0, .fieldref 8 17), (0, .nameAndType 18 12), (0, u "CLUSTER_DEFAULT_SETTING"), (0, .fieldref 8 20), (0, .nameAndType 21 12), (0, u "STATIC_BROKER_SETTING"), (0, .fieldref 8 23), (0, .nameAndType 24 12), (0, u "BUILT_IN_DEFAULT"), (0, .fieldref 8 26), (0, .nameAndType 27 12), (0, u "UNKNOWN"), (0, .methodref 8 29), (0, .nameAndType 30 31), (0, u "of"), (0, u "(B)Lcom/example/moffett/moffett/catalogue/ConfigSource;"), (0, .class_ 33), (0, u "com/example/moffett/moffett/catalogue/ConfigSourceOfPinLaw"), (2, u "law"), (0, u "(I)Z")] 3

def k1m0 : Method := { name := "<init>", desc := "()V", sig := { parameters := [], returnType := none }, accessFlags := 1, code := none }
def k1c1 : Code := { maxStack := 2, maxLocals := 3, code := code, exceptionTable := #[], attributes := #[] }
def k1m1 : Method := { name := "law", desc := "(I)Z", sig := { parameters := [.int], returnType := some .boolean }, accessFlags := 9, code := some k1c1 }
/-- com/example/moffett/moffett/catalogue/ConfigSourceOfPinLaw -/
def k1 : Class := { plain "com/example/moffett/moffett/catalogue/ConfigSourceOfPinLaw" (some 0) with
  accessFlags := 49
  interfaces := #[]
  cf := some (fileOf pool1 32 #[] #[{ accessFlags := 1, nameIndex := 5, descriptorIndex := 6, attributes := #[] }, { accessFlags := 9, nameIndex := 36, descriptorIndex := 37, attributes := #[] }] 49 2 #[] #[])
  fields := #[]
  methods := #[k1m0, k1m1]
  instanceTypes := #[]
  staticTypes := #[]
  resolved := Array.replicate 41 none
  statics := none }

def pool2 : Array CpInfo := pool [(1, .class_ 2), (0, u "java/lang/constant/Constable"), (0, .class_ 4), (0, u "java/lang/Object")] 6

/-- java/lang/constant/Constable -/
def k2 : Class := { plain "java/lang/constant/Constable" (some 0) with
  accessFlags := 1537
  interfaces := #[]
  cf := some (fileOf pool2 1 #[] #[] 1537 3 #[] #[])
  fields := #[]
  methods := #[]
  instanceTypes := #[]
  staticTypes := #[]
  resolved := Array.replicate 11 none
  statics := none }

def pool3 : Array CpInfo := pool [(1, .class_ 2), (0, u "java/lang/Comparable"), (0, .class_ 4), (0, u "java/lang/Object")] 7

/-- java/lang/Comparable -/
def k3 : Class := { plain "java/lang/Comparable" (some 0) with
  accessFlags := 1537
  interfaces := #[]
  cf := some (fileOf pool3 1 #[] #[] 1537 3 #[] #[])
  fields := #[]
  methods := #[]
  instanceTypes := #[]
  staticTypes := #[]
  resolved := Array.replicate 12 none
  statics := none }

def pool4 : Array CpInfo := pool [(1, .class_ 2), (0, u "java/io/Serializable"), (0, .class_ 4), (0, u "java/lang/Object")] 2

/-- java/io/Serializable -/
def k4 : Class := { plain "java/io/Serializable" (some 0) with
  accessFlags := 1537
  interfaces := #[]
  cf := some (fileOf pool4 1 #[] #[] 1537 3 #[] #[])
  fields := #[]
  methods := #[]
  instanceTypes := #[]
  staticTypes := #[]
  resolved := Array.replicate 7 none
  statics := none }

def pool5 : Array CpInfo := pool [(2, .class_ 4), (1, u "java/lang/Enum"), (0, u "name"), (0, u "Ljava/lang/String;"), (2, u "ordinal"), (0, u "I"), (1, .class_ 14), (1, u "java/lang/Object"), (4, u "hash"), (86, .class_ 108), (1, u "java/lang/Enum$EnumDesc"), (2, .class_ 112), (0, u "java/lang/constant/Constable"), (0, .class_ 114), (0, u "java/lang/Comparable"), (0, .class_ 116), (0, u "java/io/Serializable")] 87

/-- java/lang/Enum -/
def k5 : Class := { plain "java/lang/Enum" (some 0) with
  accessFlags := 1057
  interfaces := #[2, 3, 4]
  cf := some (fileOf pool5 2 #[.nestMembers #[106]] #[] 1057 12 #[111, 113, 115] #[{ accessFlags := 18, nameIndex := 5, descriptorIndex := 6, attributes := #[] }, { accessFlags := 18, nameIndex := 9, descriptorIndex := 10, attributes := #[] }, { accessFlags := 2, nameIndex := 19, descriptorIndex := 10, attributes := #[] }])
  fields := #[{ name := "name", type := (.object "java/lang/String"), accessFlags := 18, slot := 0, constantValue := 0 }, { name := "ordinal", type := .int, accessFlags := 18, slot := 1, constantValue := 0 }, { name := "hash", type := .int, accessFlags := 2, slot := 2, constantValue := 0 }]
  methods := #[]
  instanceTypes := #[(.object "java/lang/String"), .int, .int]
  staticTypes := #[]
  resolved := Array.replicate 204 none
  statics := none }

def pool6 : Array CpInfo := pool [(1, .class_ 2), (0, u "com/example/moffett/moffett/catalogue/ConfigSource"), (2, u "TOPIC_SETTING"), (0, u "Lcom/example/moffett/moffett/catalogue/ConfigSource;"), (2, u "PER_BROKER_SETTING"), (2, u "CLUSTER_DEFAULT_SETTING"), (2, u "STATIC_BROKER_SETTING"), (2, u "BUILT_IN_DEFAULT"), (0, .fieldref 1 20), (0, .nameAndType 21 6), (0, u "UNKNOWN"), (0, .fieldref 1 23), (0, .nameAndType 24 25), (0, u "$VALUES"), (0, u "[Lcom/example/moffett/moffett/catalogue/ConfigSource;"), (0, .methodref 27 28), (0, .class_ 25), (0, .nameAndType 29 30), (0, u "clone"), (0, u "()Ljava/lang/Object;"), (1, .class_ 34), (1, u "java/lang/Enum"), (6, .fieldref 1 42), (0, .nameAndType 43 44), (0, u "id"), (0, u "B"), (0, .methodref 1 46), (0, .nameAndType 47 48), (0, u "values"), (0, u "()[Lcom/example/moffett/moffett/catalogue/ConfigSource;"), (20, u "of"), (0, u "(B)Lcom/example/moffett/moffett/catalogue/ConfigSource;")] 6

def k6c0 : Code := { maxStack := 1, maxLocals := 0, code := prog_3_method_1_code, exceptionTable := #[], attributes := #[] }
def k6m0 : Method := { name := "values", desc := "()[Lcom/example/moffett/moffett/catalogue/ConfigSource;", sig := { parameters := [], returnType := some (.array (.object "com/example/moffett/moffett/catalogue/ConfigSource")) }, accessFlags := 9, code := some k6c0 }
def k6c1 : Code := { maxStack := 2, maxLocals := 5, code := prog_3_method_5_code, exceptionTable := #[], attributes := #[] }
def k6m1 : Method := { name := "of", desc := "(B)Lcom/example/moffett/moffett/catalogue/ConfigSource;", sig := { parameters := [.byte], returnType := some (.object "com/example/moffett/moffett/catalogue/ConfigSource") }, accessFlags := 9, code := some k6c1 }
/-- com/example/moffett/moffett/catalogue/ConfigSource -/
def k6 : Class := { plain "com/example/moffett/moffett/catalogue/ConfigSource" (some 5) with
  accessFlags := 16433
  interfaces := #[]
  cf := some (fileOf pool6 1 #[] #[{ accessFlags := 9, nameIndex := 47, descriptorIndex := 48, attributes := #[] }, { accessFlags := 9, nameIndex := 69, descriptorIndex := 70, attributes := #[] }] 16433 32 #[] #[{ accessFlags := 16409, nameIndex := 5, descriptorIndex := 6, attributes := #[] }, { accessFlags := 16409, nameIndex := 9, descriptorIndex := 6, attributes := #[] }, { accessFlags := 16409, nameIndex := 12, descriptorIndex := 6, attributes := #[] }, { accessFlags := 16409, nameIndex := 15, descriptorIndex := 6, attributes := #[] }, { accessFlags := 16409, nameIndex := 18, descriptorIndex := 6, attributes := #[] }, { accessFlags := 16409, nameIndex := 21, descriptorIndex := 6, attributes := #[] }, { accessFlags := 18, nameIndex := 43, descriptorIndex := 44, attributes := #[] }, { accessFlags := 4122, nameIndex := 24, descriptorIndex := 25, attributes := #[] }])
  fields := #[{ name := "TOPIC_SETTING", type := (.object "com/example/moffett/moffett/catalogue/ConfigSource"), accessFlags := 16409, slot := 0, constantValue := 0 }, { name := "PER_BROKER_SETTING", type := (.object "com/example/moffett/moffett/catalogue/ConfigSource"), accessFlags := 16409, slot := 1, constantValue := 0 }, { name := "CLUSTER_DEFAULT_SETTING", type := (.object "com/example/moffett/moffett/catalogue/ConfigSource"), accessFlags := 16409, slot := 2, constantValue := 0 }, { name := "STATIC_BROKER_SETTING", type := (.object "com/example/moffett/moffett/catalogue/ConfigSource"), accessFlags := 16409, slot := 3, constantValue := 0 }, { name := "BUILT_IN_DEFAULT", type := (.object "com/example/moffett/moffett/catalogue/ConfigSource"), accessFlags := 16409, slot := 4, constantValue := 0 }, { name := "UNKNOWN", type := (.object "com/example/moffett/moffett/catalogue/ConfigSource"), accessFlags := 16409, slot := 5, constantValue := 0 }, { name := "id", type := .byte, accessFlags := 18, slot := 3, constantValue := 0 }, { name := "$VALUES", type := (.array (.object "com/example/moffett/moffett/catalogue/ConfigSource")), accessFlags := 4122, slot := 6, constantValue := 0 }]
  methods := #[k6m0, k6m1]
  instanceTypes := #[(.object "java/lang/String"), .int, .int, .byte]
  staticTypes := #[(.object "com/example/moffett/moffett/catalogue/ConfigSource"), (.object "com/example/moffett/moffett/catalogue/ConfigSource"), (.object "com/example/moffett/moffett/catalogue/ConfigSource"), (.object "com/example/moffett/moffett/catalogue/ConfigSource"), (.object "com/example/moffett/moffett/catalogue/ConfigSource"), (.object "com/example/moffett/moffett/catalogue/ConfigSource"), (.array (.object "com/example/moffett/moffett/catalogue/ConfigSource"))]
  resolved := Array.replicate 77 none
  statics := some 0 }

def pool7 : Array CpInfo := pool [(1, .class_ 2), (0, u "java/lang/Cloneable"), (0, .class_ 4), (0, u "java/lang/Object")] 2

/-- java/lang/Cloneable -/
def k7 : Class := { plain "java/lang/Cloneable" (some 0) with
  accessFlags := 1537
  interfaces := #[]
  cf := some (fileOf pool7 1 #[] #[] 1537 3 #[] #[])
  fields := #[]
  methods := #[]
  instanceTypes := #[]
  staticTypes := #[]
  resolved := Array.replicate 7 none
  statics := none }

/-- the primitive byte -/
def k8 : Class := { plain "byte" none with kind := .primitive 'B', accessFlags := 0x411 }
/-- [B -/
def k9 : Class := { plain "[B" (some 0) with kind := .array 8 .byte, interfaces := #[7, 4], accessFlags := 1041 }

/-- the primitive int -/
def k10 : Class := { plain "int" none with kind := .primitive 'I', accessFlags := 0x411 }
/-- [I -/
def k11 : Class := { plain "[I" (some 0) with kind := .array 10 .int, interfaces := #[7, 4], accessFlags := 1041 }

/-- [Lcom/example/moffett/moffett/catalogue/ConfigSource; -/
def k12 : Class := { plain "[Lcom/example/moffett/moffett/catalogue/ConfigSource;" (some 0) with kind := .array 6 (.object "com/example/moffett/moffett/catalogue/ConfigSource"), interfaces := #[7, 4], accessFlags := 1041 }

def heap : Heap := #[{ cls := 6, slots := #[.ref 2, .ref 3, .ref 4, .ref 5, .ref 6, .ref 7, .ref 1], vm := .statics 6 },
  { cls := 12, slots := #[.ref 2, .ref 3, .ref 4, .ref 5, .ref 6, .ref 7], vm := .none },
  { cls := 6, slots := #[.null, .int 0, .int 0, .int 1], vm := .none },
  { cls := 6, slots := #[.null, .int 1, .int 0, .int 2], vm := .none },
  { cls := 6, slots := #[.null, .int 2, .int 0, .int 3], vm := .none },
  { cls := 6, slots := #[.null, .int 3, .int 0, .int 4], vm := .none },
  { cls := 6, slots := #[.null, .int 4, .int 0, .int 5], vm := .none },
  { cls := 6, slots := #[.null, .int 5, .int 0, .int 0], vm := .none }]
def classes : Array Class := #[k0, k1, k2, k3, k4, k5, k6, k7, k8, k9, k10, k11, k12]
def interned : List (Array UInt16 × Addr) := []
def slotsUsed : Nat := 37
def theMethod : MethodId := ⟨1, 1⟩
def args0 : Array Value := #[.int 3]
def aboutOver (below : List Frame) : State where
  vm := { classes := classes, interned := interned.toArray }
  heap := heap
  slotsUsed := slotsUsed
  threads := #[{ frames := .invoking theMethod args0 :: below }]
def below0 : List Frame := [.native { method := ⟨0, 0⟩, args := #[] }]
def about1 : State := aboutOver below0
def p0 : Program := .bare "" "" ""
def e0 : Env := launch0.env 0 0 0
theorem w_frames : about1.frames = Frame.invoking theMethod args0 :: below0 := rfl
set_option maxRecDepth 65536 in
theorem w_args : argsFit about1.vm theMethod args0 = true := by decide +kernel
set_option maxRecDepth 65536 in
theorem w_heap : heapFits about1 = true := by decide +kernel
set_option maxRecDepth 65536 in
theorem w_runnable : about1.curStatus? = some .runnable := by decide +kernel
set_option maxRecDepth 65536 in
theorem w_alone : about1.alone = true := by decide +kernel
set_option maxRecDepth 65536 in
theorem w_named : about1.methodNamed? x = some theMethod := by decide +kernel
set_option maxRecDepth 65536 in
theorem w_hears : about1.hears theMethod below0 = true := by decide +kernel
set_option maxRecDepth 65536 in
theorem w_ripe : about1.ripe theMethod args0 below0 = true := by decide +kernel
theorem w_running : about1.status = .running := rfl
set_option maxRecDepth 65536 in
theorem w_room : about1.hasRoom e0.platform room_1 = true :=
  launch0.hasRoom_least _ room_1 (by decide +kernel) (by decide +kernel) (by decide +kernel) (by decide +kernel) (by decide +kernel) (by decide +kernel)
theorem allAtoms_all (ts : List Jvm.Cond) (a : Array Jvm.Value) (st : Jvm.State) : (allAtoms ts).before a st = ts.all (fun c => c.before a st) := by
  induction ts with
  | nil => rfl
  | cons c t ih =>
    show (Jvm.Cond.and c (allAtoms t)).before a st = _
    rw [Jvm.Cond.before_and, ih, List.all_cons]
def words1 : List Jvm.Cond := Jvm.Cond.code x code maxLocals ret :: tables_1
/-- a 'code' word, met by the world's own term for the bytes: nothing is compared byte by byte -/
theorem code_word {y : MethodName} {bytes : ByteArray} {mx : Nat} {rt : Option FieldType} {a : Array Value} {s : State} {m : MethodId} {meth : Method} {c : Code} (h1 : s.methodNamed? y = some m) (h2 : s.vm.method? m = some meth) (h3 : meth.code = some c) (h4 : c.code = bytes)
    (h5 : (c.maxLocals == mx && c.exceptionTable.isEmpty && decide (c.maxStack ≤ mostOperands) && decide (meth.sig.returnType = rt) && !meth.locks && decide (parseMethodDescriptor y.desc = some meth.sig)) = true) : (Jvm.Cond.code y bytes mx rt).before a s = true := by
  simp only [Bool.and_eq_true, beq_iff_eq, Bool.not_eq_true', decide_eq_true_eq] at h5
  obtain ⟨⟨⟨⟨⟨g1, g2⟩, g3⟩, g4⟩, g5⟩, g6⟩ := h5
  simp [Cond.before, Cond.holds, Cond.value, h1, h2, h3, h4, g1, g2, g3, g4, g5, g6]
def isCode : Jvm.Cond → Bool
  | .code _ _ _ _ => true
  | _ => false
theorem all_split {L : List Jvm.Cond} {P : Jvm.Cond → Bool} (h1 : L.all (fun c => isCode c || P c) = true) (h2 : ∀ c ∈ L.filter isCode, P c = true) : L.all P = true := by
  refine List.all_eq_true.mpr fun c hc => ?_
  have h := List.all_eq_true.mp h1 c hc
  rcases Bool.eq_false_or_eq_true (isCode c) with hi | hi
  · exact h2 c (List.mem_filter.mpr ⟨hc, hi⟩)
  · simpa [hi] using h
set_option maxRecDepth 65536 in
theorem w_c0 : (Jvm.Cond.code x code maxLocals ret).before args0 about1 = true := code_word (m := ⟨1, 1⟩) (meth := k1m1) (c := k1c1) (by decide +kernel) rfl rfl rfl (by decide +kernel)
set_option maxRecDepth 65536 in
theorem w_c1 : (Jvm.Cond.code ({ cls := "com/example/moffett/moffett/catalogue/ConfigSource", name := "of", desc := "(B)Lcom/example/moffett/moffett/catalogue/ConfigSource;" } : Jvm.MethodName) prog_3_method_5_code (5 : Nat) (Option.some (Jvm.ClassFile.FieldType.object "com/example/moffett/moffett/catalogue/ConfigSource"))).before args0 about1 = true := code_word (m := ⟨6, 1⟩) (meth := k6m1) (c := k6c1) (by decide +kernel) rfl rfl rfl (by decide +kernel)
set_option maxRecDepth 65536 in
theorem w_c2 : (Jvm.Cond.code ({ cls := "com/example/moffett/moffett/catalogue/ConfigSource", name := "values", desc := "()[Lcom/example/moffett/moffett/catalogue/ConfigSource;" } : Jvm.MethodName) prog_3_method_1_code (0 : Nat) (Option.some (Jvm.ClassFile.FieldType.array (Jvm.ClassFile.FieldType.object "com/example/moffett/moffett/catalogue/ConfigSource")))).before args0 about1 = true := code_word (m := ⟨6, 0⟩) (meth := k6m0) (c := k6c0) (by decide +kernel) rfl rfl rfl (by decide +kernel)
def codes1 : List Jvm.Cond := [Jvm.Cond.code x code maxLocals ret, Jvm.Cond.code ({ cls := "com/example/moffett/moffett/catalogue/ConfigSource", name := "of", desc := "(B)Lcom/example/moffett/moffett/catalogue/ConfigSource;" } : Jvm.MethodName) prog_3_method_5_code (5 : Nat) (Option.some (Jvm.ClassFile.FieldType.object "com/example/moffett/moffett/catalogue/ConfigSource")), Jvm.Cond.code ({ cls := "com/example/moffett/moffett/catalogue/ConfigSource", name := "values", desc := "()[Lcom/example/moffett/moffett/catalogue/ConfigSource;" } : Jvm.MethodName) prog_3_method_1_code (0 : Nat) (Option.some (Jvm.ClassFile.FieldType.array (Jvm.ClassFile.FieldType.object "com/example/moffett/moffett/catalogue/ConfigSource")))]
set_option maxRecDepth 65536 in
theorem codes_eq : words1.filter isCode = codes1 := rfl
theorem w_codes : ∀ c ∈ words1.filter isCode, c.before args0 about1 = true := by
  rw [codes_eq]
  intro c hc
  simp only [codes1, List.mem_cons, List.not_mem_nil, or_false] at hc
  rcases hc with rfl | rfl | rfl
  · exact w_c0
  · exact w_c1
  · exact w_c2
set_option maxRecDepth 65536 in
theorem w_t1 : (words1.take 24).all (fun c => isCode c || c.before args0 about1) = true := by decide +kernel
set_option maxRecDepth 65536 in
theorem w_t2 : (words1.drop 24).all (fun c => isCode c || c.before args0 about1) = true := by decide +kernel
theorem w_tables : (allAtoms (Jvm.Cond.code x code maxLocals ret :: tables_1)).before args0 about1 = true := by
  rw [allAtoms_all]
  show words1.all (fun c => c.before args0 about1) = true
  refine all_split ?_ w_codes
  rw [← List.take_append_drop 24 words1, List.all_append, w_t1, w_t2]
  rfl
set_option maxRecDepth 65536 in
theorem w_case : (Jvm.Cond.and given_1 narrow_1).before args0 about1 = true := by decide +kernel
theorem w_applies : (headSpec (Jvm.Cond.code x code maxLocals ret :: tables_1) room_1).applies x e0.platform about1 = true :=
  (Spec.applies_iff w_frames).mpr ⟨w_running, w_runnable, w_alone, w_named, w_hears, w_ripe, w_room, w_tables⟩
theorem atStart : AtStart classFile x code maxLocals ret World_1 tables_1 room_1 Calls_1 rest_1 Pre_1 launch0 p0 e0 about1 theMethod args0 below0 :=
  ⟨lists_1, trivial, launch0.admits_env _ _ _, launch0.least_env, fairChoices_fair.cas, fairChoices_fair.clock, w_frames, w_args, w_heap, w_applies, trivial, trivial, w_case⟩
end start1
theorem witness_1 : WitnessClaimed_1 := ⟨start1.p0, start1.e0, start1.about1, start1.theMethod, start1.args0, start1.below0, start1.atStart⟩
end Jvm.Pilot.@@N@@
