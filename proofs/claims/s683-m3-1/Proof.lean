import JvmDerived
import JvmDerived.Pilot.@@N@@Statement
import JvmDerived.Pilot.@@N@@Code
set_option linter.unusedVariables false
set_option linter.unusedSimpArgs false
namespace Jvm.RoadKit
open Sem ClassFile Op Lib Jvm.Stand Jvm.Free Jvm.LawKit
section New
variable {p : Program} {l : Launch} {e : Env} {R : Room} {s : State} {m : MethodId} {args : Array Value} {below : List Frame} {meth : Method} {c : Code} {T : State} {locs : List Loc} {cells slots : Nat}
theorem retI (X : Stand p l e R s m args below meth c T locs cells slots) (hx : p.tables.exec = Jvm.exec) {pc : Nat} {Ls : Array Slot} {z : Int32} {rest : List Value} (hret : meth.sig.returnType = some .int) (hd : decode c.code pc = .ok (.ireturn, 1)) {fs : List Frame}
    (hl : ∀ (f : JFrame) (acts : List Action), f.method = m → f.locked = none → f.entered = [] → (doReturn e (T.setTop f) acts (some (.int z))).1 = T.setFrames fs) : Steps p.tables e below (T.setTop (mkF m pc Ls (.int z :: rest))) (T.setFrames fs) := by
  have hm' : T.vm.method? m = some meth := X.method'
  have hn : narrow .int (.int z) = .int z := rfl
  show Steps p.tables e below (T.setTop { method := m, pc := pc, locals := Ls, stack := _ :: rest, locked := none }) _
  jvm_step X.here [X.here.top, hx, hd, hm', hret, hn]
  first | (intro acts; rw [hl _ acts rfl rfl rfl]) | rw [hl _ _ rfl rfl rfl]
  exact Steps.refl _
end New
end Jvm.RoadKit
namespace Jvm.Pilot.@@N@@
open Jvm Jvm.ClassFile Sem Op Lib Jvm.Free Jvm.Stand Jvm.LawKit Jvm.RoadKit Bundle Jvm.Pilot.@@N@@.Jvm.D
theorem d2_0 : decode prog_4_method_1_code 0 = .ok (.getstatic 34, 3) := by decide +kernel
theorem d2_3 : decode prog_4_method_1_code 3 = .ok (.invokevirtual 38, 3) := by decide +kernel
theorem d2_6 : decode prog_4_method_1_code 6 = .ok (.checkcast 39, 3) := by decide +kernel
theorem d2_9 : decode prog_4_method_1_code 9 = .ok (.areturn, 1) := by decide +kernel
def Q2 (Z : State) (va : Addr) (kv : ClassId) (u0 u1 u2 u3 u4 u5 u6 u7 u8 u9 : Addr) (h0 : Heap) (n0 : Nat) (v : Option Value) (h : Heap) (L : List Loc) : Prop := ∃ b : Addr, v = some (.ref b) ∧ Fr n0 L ∧ Ext h0 h ∧ Arv Z h b kv (.object "com/example/moffett/moffett/catalogue/ConfigType") (10 : Int32) [(.ref u0), (.ref u1), (.ref u2), (.ref u3), (.ref u4), (.ref u5), (.ref u6), (.ref u7), (.ref u8), (.ref u9)] .null
theorem ef_rm2 (m : MethodId)  : entryFrame m #[] 0 = mkF m 0 #[] [] := by first | (simp [entryFrame, mkF, argsToLocals, Value.category]; done) | rfl
theorem pnc_com_example_moffett_moffett_catalogue_ConfigType : plainName "com/example/moffett/moffett/catalogue/ConfigType" = true := by first | (simp [plainName, overriddenIn]; done) | decide +kernel
set_option maxRecDepth 65536 in
set_option maxHeartbeats 40000000 in
theorem rm2 (l : Launch) (Z : State) (a0 : Array Value) (hw : ∀ d ∈ tables_1, d.before a0 Z = true) (ws : List Jvm.Cond) (va : Addr) (kv : ClassId) (u0 u1 u2 u3 u4 u5 u6 u7 u8 u9 : Addr) (h0 : Heap) (n0 : Nat) (Z0 : n0 ≤ h0.size) (SV : Sta Z h0 "com/example/moffett/moffett/catalogue/ConfigType" "$VALUES" "[Lcom/example/moffett/moffett/catalogue/ConfigType;" (.ref va)) (AV : Arv Z h0 va kv (.object "com/example/moffett/moffett/catalogue/ConfigType") (10 : Int32) [(.ref u0), (.ref u1), (.ref u2), (.ref u3), (.ref u4), (.ref u5), (.ref u6), (.ref u7), (.ref u8), (.ref u9)] .null) (EV : Exa Z h0 va "[Lcom/example/moffett/moffett/catalogue/ConfigType;") (FC : ∀ cl : Cell, h0[va]? = some cl → FitC Z cl) :
    MetFree l (⟨"com/example/moffett/moffett/catalogue/ConfigType", "values", "()[Lcom/example/moffett/moffett/catalogue/ConfigType;"⟩ : MethodName) (head1 (Jvm.Cond.code (⟨"com/example/moffett/moffett/catalogue/ConfigType", "values", "()[Lcom/example/moffett/moffett/catalogue/ConfigType;"⟩ : MethodName) prog_4_method_1_code 0 (some (.array (.object "com/example/moffett/moffett/catalogue/ConfigType"))) :: ws) ({ frames := 1, cells := 1, slots := 10, locals := 14 } : Room)) (fun a U => a = #[] ∧ Z.Warmed39 U.vm ∧ U.heap = h0) (fun _ _ _ _ _ => True) (fun _ U o U' => ∃ v L, o = .returned v ∧ Q2 Z va kv u0 u1 u2 u3 u4 u5 u6 u7 u8 u9 h0 n0 v U'.heap L ∧ FrameEnd U o U' L ({ frames := 1, cells := 1, slots := 10, locals := 14 } : Room).cells ({ frames := 1, cells := 1, slots := 10, locals := 14 } : Room).slots) := by
  refine MetFree.of_bodySF (plainFor_of_name pnc_com_example_moffett_moffett_catalogue_ConfigType) hisR ?_
  intro p e s m args below meth c s₁ Bd hml0 hP hK
  obtain ⟨rfl, hZ, hh⟩ := hP
  have hx := Bd.exec
  have hby := Bd.bytes
  have hml : c.maxLocals = 0 := hml0
  have hown : s.vm.findClass "com/example/moffett/moffett/catalogue/ConfigType" = some m.cls := findClass_of_methodNamed Bd.named
  have hnm := (name_of_methodNamed Bd.named Bd.method).1
  have X0 : Stand p l e ({ frames := 1, cells := 1, slots := 10, locals := 14 } : Room) s m #[] below meth c s₁ [] 0 0 := Stand.of_body Bd
  have e0 : s₁.heap = h0 := by rw [← hh, Bd.state]; rfl
  have N0 := Fr.nil n0
  have kp0 : Keep h0 h0 [] := Keep.refl _ _
  have G0 : ∀ t, Steps p.tables e below (s₁.setTop (mkF m 0 #[] [])) t → Steps p.tables e below (s₁.setTop (entryFrame m #[] 0)) t := fun t k => castTop (ef_rm2 m ) k
  obtain ⟨T1, X1, e1, st1⟩ := getS2 X0 hx hZ hown (host := "") (Or.inl (hw _ (List.mem_of_getElem? (i := 7) rfl))) Via.refl e0 SV (g := (mkF m 0 #[] [])) rfl (hb hby d2_0)
  obtain ⟨cl, Ar, qk, Sz, Mz, Hz, Gz⟩ := id AV
  obtain ⟨T2, h2, X2, e2, E2, Ar2, A2, st2⟩ := cloneA X1 hx hZ hown (hw _ (List.mem_of_getElem? (i := 9) rfl)) (hw _ (List.mem_of_getElem? (i := 10) rfl)) (hw _ (List.mem_of_getElem? (i := 14) rfl)) (hw _ (List.mem_of_getElem? (i := 12) rfl)) (hw _ (List.mem_of_getElem? (i := 13) rfl)) (hw _ (List.mem_of_getElem? (i := 15) rfl)) e1 Ar EV (FC cl Ar.1) (g := (mkF m 3 #[] [(.ref va)])) rfl (by rw [hml]; rfl) rfl (hb hby d2_3) (by decide) (W := 0) (by show 2 * 0 + _ ≤ _; exact Nat.le_of_eq rfl) (by decide) (cap := 10) (by rw [Sz]; decide) (by decide) (by decide)
  obtain ⟨b2, g2⟩ : ∃ z, z = h0.size := ⟨_, rfl⟩
  rw [← g2] at A2 Ar2 st2
  have g_b2 : n0 ≤ b2 := Nat.le_trans Z0 (Nat.le_of_eq g2.symm)
  have sz_b2 : h0.size ≤ b2 := Nat.le_trans kp0.1 (Nat.le_of_eq g2.symm)
  have ne_va_b2 : va ≠ b2 := Nat.ne_of_lt (Nat.lt_of_lt_of_le AV.lt (Nat.le_of_eq g2.symm))
  have f3 : Sta Z h2 "com/example/moffett/moffett/catalogue/ConfigType" "$VALUES" "[Lcom/example/moffett/moffett/catalogue/ConfigType;" (.ref va) := SV.ext E2
  have f4 : Arv Z h2 va kv (.object "com/example/moffett/moffett/catalogue/ConfigType") (10 : Int32) [(.ref u0), (.ref u1), (.ref u2), (.ref u3), (.ref u4), (.ref u5), (.ref u6), (.ref u7), (.ref u8), (.ref u9)] .null := AV.ext E2
  have f5 : Exa Z h2 va "[Lcom/example/moffett/moffett/catalogue/ConfigType;" := EV.ext E2
  have z6 : n0 ≤ h2.size := Nat.le_trans Z0 E2.1
  have kp7 : Keep h0 h2 [] := kp0.ext E2
  have f8 : Arv Z h2 b2 kv (.object "com/example/moffett/moffett/catalogue/ConfigType") (10 : Int32) [(.ref u0), (.ref u1), (.ref u2), (.ref u3), (.ref u4), (.ref u5), (.ref u6), (.ref u7), (.ref u8), (.ref u9)] .null := ⟨_, Ar2, qk, Sz, Mz, Hz, Gz⟩
  obtain ⟨T9, X9, e9, st9⟩ := castY X2 hx hZ hown (hw _ (List.mem_of_getElem? (i := 27) rfl)) e2 (Ins.self A2) (g := (mkF m 6 #[] [(.ref b2)])) rfl rfl (hb hby d2_6)
  obtain ⟨fs, hr, hrun, hended, hW, hsame⟩ := X9.leave (v := some (.ref b2)) (fun h => by rw [Bd.returns] at h; cases h)
  refine ⟨_, _, G0 _ ?_, hrun, hended, _, _, rfl, ?_, ⟨_, rfl⟩, hW, hsame.mono (by decide) (by decide)⟩
  · skip
    show Steps p.tables e below (s₁.setTop (mkF m 0 #[] [])) _
    refine st1 _ ?_
    show Steps p.tables e below (T1.setTop (mkF m 3 #[] [(.ref va)])) _
    refine st2 _ ?_
    show Steps p.tables e below (T2.setTop (mkF m 6 #[] [(.ref b2)])) _
    refine st9 _ ?_
    show Steps p.tables e below (T9.setTop (mkF m 9 #[] [(.ref b2)])) _
    exact retOut X9 hx Bd.returns rfl (Or.inr (Or.inr (Or.inr (Or.inr ⟨rfl, rfl, rfl⟩)))) (hb hby d2_9) hr
  · show Q2 Z va kv u0 u1 u2 u3 u4 u5 u6 u7 u8 u9 h0 n0 _ T9.heap _
    rw [e9]
    exact ⟨b2, rfl, N0, E2, f8⟩
theorem d1_0 : decode prog_4_method_5_code 0 = .ok (.invokestatic 57, 3) := by decide +kernel
theorem pd_0 : parseMethodDescriptor "()[Lcom/example/moffett/moffett/catalogue/ConfigType;" = some ⟨[], some (.array (.object "com/example/moffett/moffett/catalogue/ConfigType"))⟩ := by decide +kernel
theorem d1_3 : decode prog_4_method_5_code 3 = .ok (.astore_n 1, 1) := by decide +kernel
theorem d1_4 : decode prog_4_method_5_code 4 = .ok (.aload_n 1, 1) := by decide +kernel
theorem d1_5 : decode prog_4_method_5_code 5 = .ok (.arraylength, 1) := by decide +kernel
theorem d1_6 : decode prog_4_method_5_code 6 = .ok (.istore_n 2, 1) := by decide +kernel
theorem d1_7 : decode prog_4_method_5_code 7 = .ok (.iconst 0, 1) := by decide +kernel
theorem d1_8 : decode prog_4_method_5_code 8 = .ok (.istore_n 3, 1) := by decide +kernel
theorem d1_9 : decode prog_4_method_5_code 9 = .ok (.iload_n 3, 1) := by decide +kernel
theorem d1_10 : decode prog_4_method_5_code 10 = .ok (.iload_n 2, 1) := by decide +kernel
theorem d1_11 : decode prog_4_method_5_code 11 = .ok (.if_icmp .ge 26, 3) := by decide +kernel
theorem d1_14 : decode prog_4_method_5_code 14 = .ok (.aload_n 1, 1) := by decide +kernel
theorem d1_15 : decode prog_4_method_5_code 15 = .ok (.iload_n 3, 1) := by decide +kernel
theorem d1_16 : decode prog_4_method_5_code 16 = .ok (.aaload, 1) := by decide +kernel
theorem d1_17 : decode prog_4_method_5_code 17 = .ok (.astore 4, 2) := by decide +kernel
theorem d1_19 : decode prog_4_method_5_code 19 = .ok (.aload 4, 2) := by decide +kernel
theorem d1_21 : decode prog_4_method_5_code 21 = .ok (.getfield 53, 3) := by decide +kernel
theorem d1_24 : decode prog_4_method_5_code 24 = .ok (.iload_n 0, 1) := by decide +kernel
theorem d1_25 : decode prog_4_method_5_code 25 = .ok (.if_icmp .ne 6, 3) := by decide +kernel
theorem d1_28 : decode prog_4_method_5_code 28 = .ok (.aload 4, 2) := by decide +kernel
theorem d1_30 : decode prog_4_method_5_code 30 = .ok (.areturn, 1) := by decide +kernel
theorem d1_31 : decode prog_4_method_5_code 31 = .ok (.iinc 3 1, 3) := by decide +kernel
theorem d1_34 : decode prog_4_method_5_code 34 = .ok (.goto (-25), 3) := by decide +kernel
theorem d1_37 : decode prog_4_method_5_code 37 = .ok (.getstatic 3, 3) := by decide +kernel
theorem d1_40 : decode prog_4_method_5_code 40 = .ok (.areturn, 1) := by decide +kernel
def fof (p0 : Int32) (u0 u1 u2 u3 u4 u5 u6 u7 u8 u9 : Addr) : Addr := if (0 : Int32) = p0 then (u0) else (if (1 : Int32) = p0 then (u1) else (if (2 : Int32) = p0 then (u2) else (if (3 : Int32) = p0 then (u3) else (if (4 : Int32) = p0 then (u4) else (if (5 : Int32) = p0 then (u5) else (if (6 : Int32) = p0 then (u6) else (if (7 : Int32) = p0 then (u7) else (if (8 : Int32) = p0 then (u8) else (if (9 : Int32) = p0 then (u9) else (u0))))))))))
def Q1 (Z : State) (p0 : Int32) (va : Addr) (kv : ClassId) (u0 u1 u2 u3 u4 u5 u6 u7 u8 u9 : Addr) (h0 : Heap) (n0 : Nat) (v : Option Value) (h : Heap) (L : List Loc) : Prop := v = some (.ref (fof p0 u0 u1 u2 u3 u4 u5 u6 u7 u8 u9)) ∧ Fr n0 L ∧ Ext h0 h
theorem ef_rm1 (m : MethodId) (x0 : Int32) : entryFrame m #[(.int x0)] 5 = mkF m 0 #[.val (.int x0), .unset, .unset, .unset, .unset] [] := by first | (simp [entryFrame, mkF, argsToLocals, Value.category]; done) | rfl
set_option maxRecDepth 65536 in
set_option maxHeartbeats 40000000 in
theorem rm1 (l : Launch) (Z : State) (a0 : Array Value) (hw : ∀ d ∈ tables_1, d.before a0 Z = true) (ws : List Jvm.Cond) (p0 : Int32) (va : Addr) (kv : ClassId) (u0 u1 u2 u3 u4 u5 u6 u7 u8 u9 : Addr) (h0 : Heap) (n0 : Nat) (Z0 : n0 ≤ h0.size) (SV : Sta Z h0 "com/example/moffett/moffett/catalogue/ConfigType" "$VALUES" "[Lcom/example/moffett/moffett/catalogue/ConfigType;" (.ref va)) (AV : Arv Z h0 va kv (.object "com/example/moffett/moffett/catalogue/ConfigType") (10 : Int32) [(.ref u0), (.ref u1), (.ref u2), (.ref u3), (.ref u4), (.ref u5), (.ref u6), (.ref u7), (.ref u8), (.ref u9)] .null) (EV : Exa Z h0 va "[Lcom/example/moffett/moffett/catalogue/ConfigType;") (S_UNKNOWN : Sta Z h0 "com/example/moffett/moffett/catalogue/ConfigType" "UNKNOWN" "Lcom/example/moffett/moffett/catalogue/ConfigType;" (.ref u0)) (F_UNKNOWN : Fld Z h0 u0 "com/example/moffett/moffett/catalogue/ConfigType" "id" "B" (.int (0 : Int32))) (F_BOOLEAN : Fld Z h0 u1 "com/example/moffett/moffett/catalogue/ConfigType" "id" "B" (.int (1 : Int32))) (F_STRING : Fld Z h0 u2 "com/example/moffett/moffett/catalogue/ConfigType" "id" "B" (.int (2 : Int32))) (F_INT : Fld Z h0 u3 "com/example/moffett/moffett/catalogue/ConfigType" "id" "B" (.int (3 : Int32))) (F_SHORT : Fld Z h0 u4 "com/example/moffett/moffett/catalogue/ConfigType" "id" "B" (.int (4 : Int32))) (F_LONG : Fld Z h0 u5 "com/example/moffett/moffett/catalogue/ConfigType" "id" "B" (.int (5 : Int32))) (F_DOUBLE : Fld Z h0 u6 "com/example/moffett/moffett/catalogue/ConfigType" "id" "B" (.int (6 : Int32))) (F_LIST : Fld Z h0 u7 "com/example/moffett/moffett/catalogue/ConfigType" "id" "B" (.int (7 : Int32))) (F_CLASS : Fld Z h0 u8 "com/example/moffett/moffett/catalogue/ConfigType" "id" "B" (.int (8 : Int32))) (F_PASSWORD : Fld Z h0 u9 "com/example/moffett/moffett/catalogue/ConfigType" "id" "B" (.int (9 : Int32))) (FC : ∀ cl : Cell, h0[va]? = some cl → FitC Z cl) :
    MetFree l (⟨"com/example/moffett/moffett/catalogue/ConfigType", "of", "(B)Lcom/example/moffett/moffett/catalogue/ConfigType;"⟩ : MethodName) (head1 (Jvm.Cond.code (⟨"com/example/moffett/moffett/catalogue/ConfigType", "of", "(B)Lcom/example/moffett/moffett/catalogue/ConfigType;"⟩ : MethodName) prog_4_method_5_code 5 (some (.object "com/example/moffett/moffett/catalogue/ConfigType")) :: ws) ({ frames := 2, cells := 1, slots := 10, locals := 25 } : Room)) (fun a U => a = #[(.int p0)] ∧ Z.Warmed39 U.vm ∧ U.heap = h0) (fun _ _ _ _ _ => True) (fun _ U o U' => ∃ v L, o = .returned v ∧ Q1 Z p0 va kv u0 u1 u2 u3 u4 u5 u6 u7 u8 u9 h0 n0 v U'.heap L ∧ FrameEnd U o U' L ({ frames := 2, cells := 1, slots := 10, locals := 25 } : Room).cells ({ frames := 2, cells := 1, slots := 10, locals := 25 } : Room).slots) := by
  refine MetFree.of_bodySF (plainFor_of_name pnc_com_example_moffett_moffett_catalogue_ConfigType) hisR ?_
  intro p e s m args below meth c s₁ Bd hml0 hP hK
  obtain ⟨rfl, hZ, hh⟩ := hP
  have hx := Bd.exec
  have hby := Bd.bytes
  have hml : c.maxLocals = 5 := hml0
  have hown : s.vm.findClass "com/example/moffett/moffett/catalogue/ConfigType" = some m.cls := findClass_of_methodNamed Bd.named
  have hnm := (name_of_methodNamed Bd.named Bd.method).1
  have X0 : Stand p l e ({ frames := 2, cells := 1, slots := 10, locals := 25 } : Room) s m #[(.int p0)] below meth c s₁ [] 0 0 := Stand.of_body Bd
  have e0 : s₁.heap = h0 := by rw [← hh, Bd.state]; rfl
  have N0 := Fr.nil n0
  have kp0 : Keep h0 h0 [] := Keep.refl _ _
  have G0 : ∀ t, Steps p.tables e below (s₁.setTop (mkF m 0 #[.val (.int p0), .unset, .unset, .unset, .unset] [])) t → Steps p.tables e below (s₁.setTop (entryFrame m #[(.int p0)] 5)) t := fun t k => castTop (ef_rm1 m p0) k
  obtain ⟨_, _, ⟨T1, L1, k1, n1⟩, -, X1, ⟨Lc1, hQ1, l1, y1, z1⟩, st1⟩ := Jvm.LawKit.callS X0 hx (y := (⟨"com/example/moffett/moffett/catalogue/ConfigType", "values", "()[Lcom/example/moffett/moffett/catalogue/ConfigType;"⟩ : MethodName)) hown (mvT hZ (hw _ (List.mem_of_getElem? (i := 4) rfl))) (mvT hZ (hw _ (List.mem_of_getElem? (i := 5) rfl))) (mvT hZ (hw _ (List.mem_of_getElem? (i := 2) rfl))) (mvT hZ (hw _ (List.mem_of_getElem? (i := 6) rfl))) (by decide) (backOf (W := 0) (rm2 l Z a0 hw []  va kv u0 u1 u2 u3 u4 u5 u6 u7 u8 u9 h0 n0 Z0 SV AV EV FC) hZ (hw _ (List.mem_of_getElem? (i := 6) rfl)) (hw _ (List.mem_of_getElem? (i := 2) rfl)) (by decide) (by decide)) (g := (mkF m 0 #[.val (.int p0), .unset, .unset, .unset, .unset] [])) rfl (by rw [hml]; rfl) (argsL := []) (rest := []) (lenOf pd_0 rfl) rfl (by show 2 * 0 + _ ≤ _; exact Nat.le_of_eq rfl) (hb hby d1_0) (fun _ _ => ⟨rfl, e0, (by decide : 0 + 1 ≤ _), (by decide : 0 + 10 ≤ _)⟩)
  dsimp only [Pt.U, Pt.locs, Pt.cells, Pt.slots] at X1 l1 y1 z1 st1 hQ1
  subst l1 y1 z1
  obtain ⟨bb1, rfl, N1q, E1, V1⟩ := hQ1
  have N1 := Fr.app N0 N1q
  have f2 : Sta Z T1.heap "com/example/moffett/moffett/catalogue/ConfigType" "$VALUES" "[Lcom/example/moffett/moffett/catalogue/ConfigType;" (.ref va) := SV.ext E1
  have f3 : Arv Z T1.heap va kv (.object "com/example/moffett/moffett/catalogue/ConfigType") (10 : Int32) [(.ref u0), (.ref u1), (.ref u2), (.ref u3), (.ref u4), (.ref u5), (.ref u6), (.ref u7), (.ref u8), (.ref u9)] .null := AV.ext E1
  have f4 : Exa Z T1.heap va "[Lcom/example/moffett/moffett/catalogue/ConfigType;" := EV.ext E1
  have f5 : Sta Z T1.heap "com/example/moffett/moffett/catalogue/ConfigType" "UNKNOWN" "Lcom/example/moffett/moffett/catalogue/ConfigType;" (.ref u0) := S_UNKNOWN.ext E1
  have f6 : Fld Z T1.heap u0 "com/example/moffett/moffett/catalogue/ConfigType" "id" "B" (.int (0 : Int32)) := F_UNKNOWN.ext E1
  have f7 : Fld Z T1.heap u1 "com/example/moffett/moffett/catalogue/ConfigType" "id" "B" (.int (1 : Int32)) := F_BOOLEAN.ext E1
  have f8 : Fld Z T1.heap u2 "com/example/moffett/moffett/catalogue/ConfigType" "id" "B" (.int (2 : Int32)) := F_STRING.ext E1
  have f9 : Fld Z T1.heap u3 "com/example/moffett/moffett/catalogue/ConfigType" "id" "B" (.int (3 : Int32)) := F_INT.ext E1
  have f10 : Fld Z T1.heap u4 "com/example/moffett/moffett/catalogue/ConfigType" "id" "B" (.int (4 : Int32)) := F_SHORT.ext E1
  have f11 : Fld Z T1.heap u5 "com/example/moffett/moffett/catalogue/ConfigType" "id" "B" (.int (5 : Int32)) := F_LONG.ext E1
  have f12 : Fld Z T1.heap u6 "com/example/moffett/moffett/catalogue/ConfigType" "id" "B" (.int (6 : Int32)) := F_DOUBLE.ext E1
  have f13 : Fld Z T1.heap u7 "com/example/moffett/moffett/catalogue/ConfigType" "id" "B" (.int (7 : Int32)) := F_LIST.ext E1
  have f14 : Fld Z T1.heap u8 "com/example/moffett/moffett/catalogue/ConfigType" "id" "B" (.int (8 : Int32)) := F_CLASS.ext E1
  have f15 : Fld Z T1.heap u9 "com/example/moffett/moffett/catalogue/ConfigType" "id" "B" (.int (9 : Int32)) := F_PASSWORD.ext E1
  have z16 : n0 ≤ T1.heap.size := Nat.le_trans Z0 E1.1
  have kp17 : Keep h0 T1.heap [] := kp0.ext E1
  obtain ⟨cl18, Ar18, q18, S18, M18, H18, G18⟩ := id V1
  have G19 : ∀ t, Steps p.tables e below (T1.setTop (mkF m 11 #[.val (.int p0), .val (.ref bb1), .val (.int (10 : Int32)), .val (.int (0 : Int32)), .unset] [(.int (10 : Int32)), (.int (0 : Int32))])) t → Steps p.tables e below (s₁.setTop (entryFrame m #[(.int p0)] 5)) t := by
    intro t kt
    refine G0 _ ?_
    show Steps p.tables e below (s₁.setTop (mkF m 0 #[.val (.int p0), .unset, .unset, .unset, .unset] [])) _
    refine st1 _ ?_
    show Steps p.tables e below (T1.setTop (mkF m 3 #[.val (.int p0), .unset, .unset, .unset, .unset] [(.ref bb1)])) _
    refine XS.astoreN X1.here hx rfl (hb hby d1_3) rfl rfl (l' := #[.val (.int p0), .val (.ref bb1), .unset, .unset, .unset]) rfl ?_
    show Steps p.tables e below (T1.setTop (mkF m 4 #[.val (.int p0), .val (.ref bb1), .unset, .unset, .unset] [])) _
    refine XS.aloadN X1.here hx rfl (hb hby d1_4) rfl rfl ?_
    show Steps p.tables e below (T1.setTop (mkF m 5 #[.val (.int p0), .val (.ref bb1), .unset, .unset, .unset] [(.ref bb1)])) _
    refine X1.arraylength hx Ar18.1 (State.isArrayOf_alike hZ.alike Ar18.2.1) (g := (mkF m 5 #[.val (.int p0), .val (.ref bb1), .unset, .unset, .unset] [(.ref bb1)])) rfl rfl (hb hby d1_5) _ ?_
    rw [len_of S18 M18]
    show Steps p.tables e below (T1.setTop (mkF m 6 #[.val (.int p0), .val (.ref bb1), .unset, .unset, .unset] [(.int (10 : Int32))])) _
    refine XS.istoreN X1.here hx rfl (hb hby d1_6) rfl (l' := #[.val (.int p0), .val (.ref bb1), .val (.int (10 : Int32)), .unset, .unset]) rfl ?_
    show Steps p.tables e below (T1.setTop (mkF m 7 #[.val (.int p0), .val (.ref bb1), .val (.int (10 : Int32)), .unset, .unset] [])) _
    refine XS.iconst X1.here hx rfl (hb hby d1_7) ?_
    show Steps p.tables e below (T1.setTop (mkF m 8 #[.val (.int p0), .val (.ref bb1), .val (.int (10 : Int32)), .unset, .unset] [(.int (0 : Int32))])) _
    refine XS.istoreN X1.here hx rfl (hb hby d1_8) rfl (l' := #[.val (.int p0), .val (.ref bb1), .val (.int (10 : Int32)), .val (.int (0 : Int32)), .unset]) rfl ?_
    show Steps p.tables e below (T1.setTop (mkF m 9 #[.val (.int p0), .val (.ref bb1), .val (.int (10 : Int32)), .val (.int (0 : Int32)), .unset] [])) _
    refine XS.iloadN X1.here hx rfl (hb hby d1_9) rfl ?_
    show Steps p.tables e below (T1.setTop (mkF m 10 #[.val (.int p0), .val (.ref bb1), .val (.int (10 : Int32)), .val (.int (0 : Int32)), .unset] [(.int (0 : Int32))])) _
    refine XS.iloadN X1.here hx rfl (hb hby d1_10) rfl ?_
    exact kt
  obtain ⟨cl20, Ar20, q20, S20, M20, H20, G20⟩ := id V1
  have hin20 : ¬ ((0 : Int32) < 0 ∨ cl20.slots.size ≤ ((0 : Int32)).toNatClampNeg) := inb_of S20 ⟨by decide, by decide⟩
  have hat20 : cl20.slots[((0 : Int32)).toNatClampNeg]? = some (.ref u0) := H20.at hin20 rfl
  obtain ⟨T21, X21, e21, st21⟩ := getF X1 hx hZ hown (host := "") (Or.inl (hw _ (List.mem_of_getElem? (i := 29) rfl))) Via.refl rfl f6 (g := (mkF m 21 #[.val (.int p0), .val (.ref bb1), .val (.int (10 : Int32)), .val (.int (0 : Int32)), .val (.ref u0)] [(.ref u0)])) rfl rfl (hb hby d1_21)
  have G22 : ∀ t, Steps p.tables e below (T21.setTop (mkF m 25 #[.val (.int p0), .val (.ref bb1), .val (.int (10 : Int32)), .val (.int (0 : Int32)), .val (.ref u0)] [(.int p0), (.int (0 : Int32))])) t → Steps p.tables e below (s₁.setTop (entryFrame m #[(.int p0)] 5)) t := by
    intro t kt
    refine G19 _ ?_
    show Steps p.tables e below (T1.setTop (mkF m 11 #[.val (.int p0), .val (.ref bb1), .val (.int (10 : Int32)), .val (.int (0 : Int32)), .unset] [(.int (10 : Int32)), (.int (0 : Int32))])) _
    refine XS.icmpNo X1.here hx rfl (hb hby d1_11) rfl (tlt (by decide)).2.1 ?_
    show Steps p.tables e below (T1.setTop (mkF m 14 #[.val (.int p0), .val (.ref bb1), .val (.int (10 : Int32)), .val (.int (0 : Int32)), .unset] [])) _
    refine XS.aloadN X1.here hx rfl (hb hby d1_14) rfl rfl ?_
    show Steps p.tables e below (T1.setTop (mkF m 15 #[.val (.int p0), .val (.ref bb1), .val (.int (10 : Int32)), .val (.int (0 : Int32)), .unset] [(.ref bb1)])) _
    refine XS.iloadN X1.here hx rfl (hb hby d1_15) rfl ?_
    show Steps p.tables e below (T1.setTop (mkF m 16 #[.val (.int p0), .val (.ref bb1), .val (.int (10 : Int32)), .val (.int (0 : Int32)), .unset] [(.int (0 : Int32)), (.ref bb1)])) _
    refine X1.aaload hx (j := (0 : Int32)) (v := (.ref u0)) Ar20.1 (State.isArrayOf_alike hZ.alike Ar20.2.1) rfl Ar20.2.2 hin20 hat20 (g := (mkF m 16 #[.val (.int p0), .val (.ref bb1), .val (.int (10 : Int32)), .val (.int (0 : Int32)), .unset] [(.int (0 : Int32)), (.ref bb1)])) rfl rfl (hb hby d1_16) _ ?_
    show Steps p.tables e below (T1.setTop (mkF m 17 #[.val (.int p0), .val (.ref bb1), .val (.int (10 : Int32)), .val (.int (0 : Int32)), .unset] [(.ref u0)])) _
    refine XS.astore X1.here hx rfl (hb hby d1_17) rfl rfl (l' := #[.val (.int p0), .val (.ref bb1), .val (.int (10 : Int32)), .val (.int (0 : Int32)), .val (.ref u0)]) rfl ?_
    show Steps p.tables e below (T1.setTop (mkF m 19 #[.val (.int p0), .val (.ref bb1), .val (.int (10 : Int32)), .val (.int (0 : Int32)), .val (.ref u0)] [])) _
    refine XS.aload X1.here hx rfl (hb hby d1_19) rfl rfl ?_
    show Steps p.tables e below (T1.setTop (mkF m 21 #[.val (.int p0), .val (.ref bb1), .val (.int (10 : Int32)), .val (.int (0 : Int32)), .val (.ref u0)] [(.ref u0)])) _
    refine st21 _ ?_
    show Steps p.tables e below (T21.setTop (mkF m 24 #[.val (.int p0), .val (.ref bb1), .val (.int (10 : Int32)), .val (.int (0 : Int32)), .val (.ref u0)] [(.int (0 : Int32))])) _
    refine XS.iloadN X21.here hx rfl (hb hby d1_24) rfl ?_
    exact kt
  by_cases hc25_23 : (0 : Int32) = p0
  · skip
    obtain ⟨fs, hr, hrun, hended, hW, hsame⟩ := X21.leave (v := some (.ref u0)) (fun h => by rw [Bd.returns] at h; cases h)
    refine ⟨_, _, G22 _ ?_, hrun, hended, _, _, rfl, ?_, ⟨_, rfl⟩, hW, hsame.mono (by decide) (by decide)⟩
    · skip
      show Steps p.tables e below (T21.setTop (mkF m 25 #[.val (.int p0), .val (.ref bb1), .val (.int (10 : Int32)), .val (.int (0 : Int32)), .val (.ref u0)] [(.int p0), (.int (0 : Int32))])) _
      refine XS.icmpNo X21.here hx rfl (hb hby d1_25) rfl (teq hc25_23).2 ?_
      show Steps p.tables e below (T21.setTop (mkF m 28 #[.val (.int p0), .val (.ref bb1), .val (.int (10 : Int32)), .val (.int (0 : Int32)), .val (.ref u0)] [])) _
      refine XS.aload X21.here hx rfl (hb hby d1_28) rfl rfl ?_
      show Steps p.tables e below (T21.setTop (mkF m 30 #[.val (.int p0), .val (.ref bb1), .val (.int (10 : Int32)), .val (.int (0 : Int32)), .val (.ref u0)] [(.ref u0)])) _
      exact retOut X21 hx Bd.returns rfl (Or.inr (Or.inr (Or.inr (Or.inr ⟨rfl, rfl, rfl⟩)))) (hb hby d1_30) hr
    · show Q1 Z p0 va kv u0 u1 u2 u3 u4 u5 u6 u7 u8 u9 h0 n0 _ T21.heap _
      rw [e21]
      exact ⟨by rw [fof, if_pos hc25_23], N1, E1⟩
  · skip
    have G24 : ∀ t, Steps p.tables e below (T21.setTop (mkF m 11 #[.val (.int p0), .val (.ref bb1), .val (.int (10 : Int32)), .val (.int (1 : Int32)), .val (.ref u0)] [(.int (10 : Int32)), (.int (1 : Int32))])) t → Steps p.tables e below (s₁.setTop (entryFrame m #[(.int p0)] 5)) t := by
      intro t kt
      refine G22 _ ?_
      show Steps p.tables e below (T21.setTop (mkF m 25 #[.val (.int p0), .val (.ref bb1), .val (.int (10 : Int32)), .val (.int (0 : Int32)), .val (.ref u0)] [(.int p0), (.int (0 : Int32))])) _
      refine XS.icmpYes X21.here hx rfl (pc0 := 25) (pc' := 31) rfl (hb hby d1_25) rfl (feq hc25_23).2 (by decide) (by decide) ?_
      show Steps p.tables e below (T21.setTop (mkF m 31 #[.val (.int p0), .val (.ref bb1), .val (.int (10 : Int32)), .val (.int (0 : Int32)), .val (.ref u0)] [])) _
      refine XS.iinc X21.here hx rfl (hb hby d1_31) rfl (l' := #[.val (.int p0), .val (.ref bb1), .val (.int (10 : Int32)), .val (.int (1 : Int32)), .val (.ref u0)]) rfl ?_
      show Steps p.tables e below (T21.setTop (mkF m 34 #[.val (.int p0), .val (.ref bb1), .val (.int (10 : Int32)), .val (.int (1 : Int32)), .val (.ref u0)] [])) _
      refine XS.goto X21.here hx rfl (pc0 := 34) (pc' := 9) rfl (hb hby d1_34) (by decide) (by decide) ?_
      show Steps p.tables e below (T21.setTop (mkF m 9 #[.val (.int p0), .val (.ref bb1), .val (.int (10 : Int32)), .val (.int (1 : Int32)), .val (.ref u0)] [])) _
      refine XS.iloadN X21.here hx rfl (hb hby d1_9) rfl ?_
      show Steps p.tables e below (T21.setTop (mkF m 10 #[.val (.int p0), .val (.ref bb1), .val (.int (10 : Int32)), .val (.int (1 : Int32)), .val (.ref u0)] [(.int (1 : Int32))])) _
      refine XS.iloadN X21.here hx rfl (hb hby d1_10) rfl ?_
      exact kt
    obtain ⟨cl25, Ar25, q25, S25, M25, H25, G25⟩ := id V1
    have hin25 : ¬ ((1 : Int32) < 0 ∨ cl25.slots.size ≤ ((1 : Int32)).toNatClampNeg) := inb_of S25 ⟨by decide, by decide⟩
    have hat25 : cl25.slots[((1 : Int32)).toNatClampNeg]? = some (.ref u1) := H25.at hin25 rfl
    obtain ⟨T26, X26, e26, st26⟩ := getF X21 hx hZ hown (host := "") (Or.inl (hw _ (List.mem_of_getElem? (i := 29) rfl))) Via.refl e21 f7 (g := (mkF m 21 #[.val (.int p0), .val (.ref bb1), .val (.int (10 : Int32)), .val (.int (1 : Int32)), .val (.ref u1)] [(.ref u1)])) rfl rfl (hb hby d1_21)
    have G27 : ∀ t, Steps p.tables e below (T26.setTop (mkF m 25 #[.val (.int p0), .val (.ref bb1), .val (.int (10 : Int32)), .val (.int (1 : Int32)), .val (.ref u1)] [(.int p0), (.int (1 : Int32))])) t → Steps p.tables e below (s₁.setTop (entryFrame m #[(.int p0)] 5)) t := by
      intro t kt
      refine G24 _ ?_
      show Steps p.tables e below (T21.setTop (mkF m 11 #[.val (.int p0), .val (.ref bb1), .val (.int (10 : Int32)), .val (.int (1 : Int32)), .val (.ref u0)] [(.int (10 : Int32)), (.int (1 : Int32))])) _
      refine XS.icmpNo X21.here hx rfl (hb hby d1_11) rfl (tlt (by decide)).2.1 ?_
      show Steps p.tables e below (T21.setTop (mkF m 14 #[.val (.int p0), .val (.ref bb1), .val (.int (10 : Int32)), .val (.int (1 : Int32)), .val (.ref u0)] [])) _
      refine XS.aloadN X21.here hx rfl (hb hby d1_14) rfl rfl ?_
      show Steps p.tables e below (T21.setTop (mkF m 15 #[.val (.int p0), .val (.ref bb1), .val (.int (10 : Int32)), .val (.int (1 : Int32)), .val (.ref u0)] [(.ref bb1)])) _
      refine XS.iloadN X21.here hx rfl (hb hby d1_15) rfl ?_
      show Steps p.tables e below (T21.setTop (mkF m 16 #[.val (.int p0), .val (.ref bb1), .val (.int (10 : Int32)), .val (.int (1 : Int32)), .val (.ref u0)] [(.int (1 : Int32)), (.ref bb1)])) _
      refine X21.aaload hx (j := (1 : Int32)) (v := (.ref u1)) (by rw [e21]; exact Ar25.1) (State.isArrayOf_alike hZ.alike Ar25.2.1) rfl Ar25.2.2 hin25 hat25 (g := (mkF m 16 #[.val (.int p0), .val (.ref bb1), .val (.int (10 : Int32)), .val (.int (1 : Int32)), .val (.ref u0)] [(.int (1 : Int32)), (.ref bb1)])) rfl rfl (hb hby d1_16) _ ?_
      show Steps p.tables e below (T21.setTop (mkF m 17 #[.val (.int p0), .val (.ref bb1), .val (.int (10 : Int32)), .val (.int (1 : Int32)), .val (.ref u0)] [(.ref u1)])) _
      refine XS.astore X21.here hx rfl (hb hby d1_17) rfl rfl (l' := #[.val (.int p0), .val (.ref bb1), .val (.int (10 : Int32)), .val (.int (1 : Int32)), .val (.ref u1)]) rfl ?_
      show Steps p.tables e below (T21.setTop (mkF m 19 #[.val (.int p0), .val (.ref bb1), .val (.int (10 : Int32)), .val (.int (1 : Int32)), .val (.ref u1)] [])) _
      refine XS.aload X21.here hx rfl (hb hby d1_19) rfl rfl ?_
      show Steps p.tables e below (T21.setTop (mkF m 21 #[.val (.int p0), .val (.ref bb1), .val (.int (10 : Int32)), .val (.int (1 : Int32)), .val (.ref u1)] [(.ref u1)])) _
      refine st26 _ ?_
      show Steps p.tables e below (T26.setTop (mkF m 24 #[.val (.int p0), .val (.ref bb1), .val (.int (10 : Int32)), .val (.int (1 : Int32)), .val (.ref u1)] [(.int (1 : Int32))])) _
      refine XS.iloadN X26.here hx rfl (hb hby d1_24) rfl ?_
      exact kt
    by_cases hc25_28 : (1 : Int32) = p0
    · skip
      obtain ⟨fs, hr, hrun, hended, hW, hsame⟩ := X26.leave (v := some (.ref u1)) (fun h => by rw [Bd.returns] at h; cases h)
      refine ⟨_, _, G27 _ ?_, hrun, hended, _, _, rfl, ?_, ⟨_, rfl⟩, hW, hsame.mono (by decide) (by decide)⟩
      · skip
        show Steps p.tables e below (T26.setTop (mkF m 25 #[.val (.int p0), .val (.ref bb1), .val (.int (10 : Int32)), .val (.int (1 : Int32)), .val (.ref u1)] [(.int p0), (.int (1 : Int32))])) _
        refine XS.icmpNo X26.here hx rfl (hb hby d1_25) rfl (teq hc25_28).2 ?_
        show Steps p.tables e below (T26.setTop (mkF m 28 #[.val (.int p0), .val (.ref bb1), .val (.int (10 : Int32)), .val (.int (1 : Int32)), .val (.ref u1)] [])) _
        refine XS.aload X26.here hx rfl (hb hby d1_28) rfl rfl ?_
        show Steps p.tables e below (T26.setTop (mkF m 30 #[.val (.int p0), .val (.ref bb1), .val (.int (10 : Int32)), .val (.int (1 : Int32)), .val (.ref u1)] [(.ref u1)])) _
        exact retOut X26 hx Bd.returns rfl (Or.inr (Or.inr (Or.inr (Or.inr ⟨rfl, rfl, rfl⟩)))) (hb hby d1_30) hr
      · show Q1 Z p0 va kv u0 u1 u2 u3 u4 u5 u6 u7 u8 u9 h0 n0 _ T26.heap _
        rw [e26]
        exact ⟨by rw [fof, if_neg hc25_23, if_pos hc25_28], N1, E1⟩
    · skip
      have G29 : ∀ t, Steps p.tables e below (T26.setTop (mkF m 11 #[.val (.int p0), .val (.ref bb1), .val (.int (10 : Int32)), .val (.int (2 : Int32)), .val (.ref u1)] [(.int (10 : Int32)), (.int (2 : Int32))])) t → Steps p.tables e below (s₁.setTop (entryFrame m #[(.int p0)] 5)) t := by
        intro t kt
        refine G27 _ ?_
        show Steps p.tables e below (T26.setTop (mkF m 25 #[.val (.int p0), .val (.ref bb1), .val (.int (10 : Int32)), .val (.int (1 : Int32)), .val (.ref u1)] [(.int p0), (.int (1 : Int32))])) _
        refine XS.icmpYes X26.here hx rfl (pc0 := 25) (pc' := 31) rfl (hb hby d1_25) rfl (feq hc25_28).2 (by decide) (by decide) ?_
        show Steps p.tables e below (T26.setTop (mkF m 31 #[.val (.int p0), .val (.ref bb1), .val (.int (10 : Int32)), .val (.int (1 : Int32)), .val (.ref u1)] [])) _
        refine XS.iinc X26.here hx rfl (hb hby d1_31) rfl (l' := #[.val (.int p0), .val (.ref bb1), .val (.int (10 : Int32)), .val (.int (2 : Int32)), .val (.ref u1)]) rfl ?_
        show Steps p.tables e below (T26.setTop (mkF m 34 #[.val (.int p0), .val (.ref bb1), .val (.int (10 : Int32)), .val (.int (2 : Int32)), .val (.ref u1)] [])) _
        refine XS.goto X26.here hx rfl (pc0 := 34) (pc' := 9) rfl (hb hby d1_34) (by decide) (by decide) ?_
        show Steps p.tables e below (T26.setTop (mkF m 9 #[.val (.int p0), .val (.ref bb1), .val (.int (10 : Int32)), .val (.int (2 : Int32)), .val (.ref u1)] [])) _
        refine XS.iloadN X26.here hx rfl (hb hby d1_9) rfl ?_
        show Steps p.tables e below (T26.setTop (mkF m 10 #[.val (.int p0), .val (.ref bb1), .val (.int (10 : Int32)), .val (.int (2 : Int32)), .val (.ref u1)] [(.int (2 : Int32))])) _
        refine XS.iloadN X26.here hx rfl (hb hby d1_10) rfl ?_
        exact kt
      obtain ⟨cl30, Ar30, q30, S30, M30, H30, G30⟩ := id V1
      have hin30 : ¬ ((2 : Int32) < 0 ∨ cl30.slots.size ≤ ((2 : Int32)).toNatClampNeg) := inb_of S30 ⟨by decide, by decide⟩
      have hat30 : cl30.slots[((2 : Int32)).toNatClampNeg]? = some (.ref u2) := H30.at hin30 rfl
      obtain ⟨T31, X31, e31, st31⟩ := getF X26 hx hZ hown (host := "") (Or.inl (hw _ (List.mem_of_getElem? (i := 29) rfl))) Via.refl e26 f8 (g := (mkF m 21 #[.val (.int p0), .val (.ref bb1), .val (.int (10 : Int32)), .val (.int (2 : Int32)), .val (.ref u2)] [(.ref u2)])) rfl rfl (hb hby d1_21)
      have G32 : ∀ t, Steps p.tables e below (T31.setTop (mkF m 25 #[.val (.int p0), .val (.ref bb1), .val (.int (10 : Int32)), .val (.int (2 : Int32)), .val (.ref u2)] [(.int p0), (.int (2 : Int32))])) t → Steps p.tables e below (s₁.setTop (entryFrame m #[(.int p0)] 5)) t := by
        intro t kt
        refine G29 _ ?_
        show Steps p.tables e below (T26.setTop (mkF m 11 #[.val (.int p0), .val (.ref bb1), .val (.int (10 : Int32)), .val (.int (2 : Int32)), .val (.ref u1)] [(.int (10 : Int32)), (.int (2 : Int32))])) _
        refine XS.icmpNo X26.here hx rfl (hb hby d1_11) rfl (tlt (by decide)).2.1 ?_
        show Steps p.tables e below (T26.setTop (mkF m 14 #[.val (.int p0), .val (.ref bb1), .val (.int (10 : Int32)), .val (.int (2 : Int32)), .val (.ref u1)] [])) _
        refine XS.aloadN X26.here hx rfl (hb hby d1_14) rfl rfl ?_
        show Steps p.tables e below (T26.setTop (mkF m 15 #[.val (.int p0), .val (.ref bb1), .val (.int (10 : Int32)), .val (.int (2 : Int32)), .val (.ref u1)] [(.ref bb1)])) _
        refine XS.iloadN X26.here hx rfl (hb hby d1_15) rfl ?_
        show Steps p.tables e below (T26.setTop (mkF m 16 #[.val (.int p0), .val (.ref bb1), .val (.int (10 : Int32)), .val (.int (2 : Int32)), .val (.ref u1)] [(.int (2 : Int32)), (.ref bb1)])) _
        refine X26.aaload hx (j := (2 : Int32)) (v := (.ref u2)) (by rw [e26]; exact Ar30.1) (State.isArrayOf_alike hZ.alike Ar30.2.1) rfl Ar30.2.2 hin30 hat30 (g := (mkF m 16 #[.val (.int p0), .val (.ref bb1), .val (.int (10 : Int32)), .val (.int (2 : Int32)), .val (.ref u1)] [(.int (2 : Int32)), (.ref bb1)])) rfl rfl (hb hby d1_16) _ ?_
        show Steps p.tables e below (T26.setTop (mkF m 17 #[.val (.int p0), .val (.ref bb1), .val (.int (10 : Int32)), .val (.int (2 : Int32)), .val (.ref u1)] [(.ref u2)])) _
        refine XS.astore X26.here hx rfl (hb hby d1_17) rfl rfl (l' := #[.val (.int p0), .val (.ref bb1), .val (.int (10 : Int32)), .val (.int (2 : Int32)), .val (.ref u2)]) rfl ?_
        show Steps p.tables e below (T26.setTop (mkF m 19 #[.val (.int p0), .val (.ref bb1), .val (.int (10 : Int32)), .val (.int (2 : Int32)), .val (.ref u2)] [])) _
        refine XS.aload X26.here hx rfl (hb hby d1_19) rfl rfl ?_
        show Steps p.tables e below (T26.setTop (mkF m 21 #[.val (.int p0), .val (.ref bb1), .val (.int (10 : Int32)), .val (.int (2 : Int32)), .val (.ref u2)] [(.ref u2)])) _
        refine st31 _ ?_
        show Steps p.tables e below (T31.setTop (mkF m 24 #[.val (.int p0), .val (.ref bb1), .val (.int (10 : Int32)), .val (.int (2 : Int32)), .val (.ref u2)] [(.int (2 : Int32))])) _
        refine XS.iloadN X31.here hx rfl (hb hby d1_24) rfl ?_
        exact kt
      by_cases hc25_33 : (2 : Int32) = p0
      · skip
        obtain ⟨fs, hr, hrun, hended, hW, hsame⟩ := X31.leave (v := some (.ref u2)) (fun h => by rw [Bd.returns] at h; cases h)
        refine ⟨_, _, G32 _ ?_, hrun, hended, _, _, rfl, ?_, ⟨_, rfl⟩, hW, hsame.mono (by decide) (by decide)⟩
        · skip
          show Steps p.tables e below (T31.setTop (mkF m 25 #[.val (.int p0), .val (.ref bb1), .val (.int (10 : Int32)), .val (.int (2 : Int32)), .val (.ref u2)] [(.int p0), (.int (2 : Int32))])) _
          refine XS.icmpNo X31.here hx rfl (hb hby d1_25) rfl (teq hc25_33).2 ?_
          show Steps p.tables e below (T31.setTop (mkF m 28 #[.val (.int p0), .val (.ref bb1), .val (.int (10 : Int32)), .val (.int (2 : Int32)), .val (.ref u2)] [])) _
          refine XS.aload X31.here hx rfl (hb hby d1_28) rfl rfl ?_
          show Steps p.tables e below (T31.setTop (mkF m 30 #[.val (.int p0), .val (.ref bb1), .val (.int (10 : Int32)), .val (.int (2 : Int32)), .val (.ref u2)] [(.ref u2)])) _
          exact retOut X31 hx Bd.returns rfl (Or.inr (Or.inr (Or.inr (Or.inr ⟨rfl, rfl, rfl⟩)))) (hb hby d1_30) hr
        · show Q1 Z p0 va kv u0 u1 u2 u3 u4 u5 u6 u7 u8 u9 h0 n0 _ T31.heap _
          rw [e31]
          exact ⟨by rw [fof, if_neg hc25_23, if_neg hc25_28, if_pos hc25_33], N1, E1⟩
      · skip
        have G34 : ∀ t, Steps p.tables e below (T31.setTop (mkF m 11 #[.val (.int p0), .val (.ref bb1), .val (.int (10 : Int32)), .val (.int (3 : Int32)), .val (.ref u2)] [(.int (10 : Int32)), (.int (3 : Int32))])) t → Steps p.tables e below (s₁.setTop (entryFrame m #[(.int p0)] 5)) t := by
          intro t kt
          refine G32 _ ?_
          show Steps p.tables e below (T31.setTop (mkF m 25 #[.val (.int p0), .val (.ref bb1), .val (.int (10 : Int32)), .val (.int (2 : Int32)), .val (.ref u2)] [(.int p0), (.int (2 : Int32))])) _
          refine XS.icmpYes X31.here hx rfl (pc0 := 25) (pc' := 31) rfl (hb hby d1_25) rfl (feq hc25_33).2 (by decide) (by decide) ?_
          show Steps p.tables e below (T31.setTop (mkF m 31 #[.val (.int p0), .val (.ref bb1), .val (.int (10 : Int32)), .val (.int (2 : Int32)), .val (.ref u2)] [])) _
          refine XS.iinc X31.here hx rfl (hb hby d1_31) rfl (l' := #[.val (.int p0), .val (.ref bb1), .val (.int (10 : Int32)), .val (.int (3 : Int32)), .val (.ref u2)]) rfl ?_
          show Steps p.tables e below (T31.setTop (mkF m 34 #[.val (.int p0), .val (.ref bb1), .val (.int (10 : Int32)), .val (.int (3 : Int32)), .val (.ref u2)] [])) _
          refine XS.goto X31.here hx rfl (pc0 := 34) (pc' := 9) rfl (hb hby d1_34) (by decide) (by decide) ?_
          show Steps p.tables e below (T31.setTop (mkF m 9 #[.val (.int p0), .val (.ref bb1), .val (.int (10 : Int32)), .val (.int (3 : Int32)), .val (.ref u2)] [])) _
          refine XS.iloadN X31.here hx rfl (hb hby d1_9) rfl ?_
          show Steps p.tables e below (T31.setTop (mkF m 10 #[.val (.int p0), .val (.ref bb1), .val (.int (10 : Int32)), .val (.int (3 : Int32)), .val (.ref u2)] [(.int (3 : Int32))])) _
          refine XS.iloadN X31.here hx rfl (hb hby d1_10) rfl ?_
          exact kt
        obtain ⟨cl35, Ar35, q35, S35, M35, H35, G35⟩ := id V1
        have hin35 : ¬ ((3 : Int32) < 0 ∨ cl35.slots.size ≤ ((3 : Int32)).toNatClampNeg) := inb_of S35 ⟨by decide, by decide⟩
        have hat35 : cl35.slots[((3 : Int32)).toNatClampNeg]? = some (.ref u3) := H35.at hin35 rfl
        obtain ⟨T36, X36, e36, st36⟩ := getF X31 hx hZ hown (host := "") (Or.inl (hw _ (List.mem_of_getElem? (i := 29) rfl))) Via.refl e31 f9 (g := (mkF m 21 #[.val (.int p0), .val (.ref bb1), .val (.int (10 : Int32)), .val (.int (3 : Int32)), .val (.ref u3)] [(.ref u3)])) rfl rfl (hb hby d1_21)
        have G37 : ∀ t, Steps p.tables e below (T36.setTop (mkF m 25 #[.val (.int p0), .val (.ref bb1), .val (.int (10 : Int32)), .val (.int (3 : Int32)), .val (.ref u3)] [(.int p0), (.int (3 : Int32))])) t → Steps p.tables e below (s₁.setTop (entryFrame m #[(.int p0)] 5)) t := by
          intro t kt
          refine G34 _ ?_
          show Steps p.tables e below (T31.setTop (mkF m 11 #[.val (.int p0), .val (.ref bb1), .val (.int (10 : Int32)), .val (.int (3 : Int32)), .val (.ref u2)] [(.int (10 : Int32)), (.int (3 : Int32))])) _
          refine XS.icmpNo X31.here hx rfl (hb hby d1_11) rfl (tlt (by decide)).2.1 ?_
          show Steps p.tables e below (T31.setTop (mkF m 14 #[.val (.int p0), .val (.ref bb1), .val (.int (10 : Int32)), .val (.int (3 : Int32)), .val (.ref u2)] [])) _
          refine XS.aloadN X31.here hx rfl (hb hby d1_14) rfl rfl ?_
          show Steps p.tables e below (T31.setTop (mkF m 15 #[.val (.int p0), .val (.ref bb1), .val (.int (10 : Int32)), .val (.int (3 : Int32)), .val (.ref u2)] [(.ref bb1)])) _
          refine XS.iloadN X31.here hx rfl (hb hby d1_15) rfl ?_
          show Steps p.tables e below (T31.setTop (mkF m 16 #[.val (.int p0), .val (.ref bb1), .val (.int (10 : Int32)), .val (.int (3 : Int32)), .val (.ref u2)] [(.int (3 : Int32)), (.ref bb1)])) _
          refine X31.aaload hx (j := (3 : Int32)) (v := (.ref u3)) (by rw [e31]; exact Ar35.1) (State.isArrayOf_alike hZ.alike Ar35.2.1) rfl Ar35.2.2 hin35 hat35 (g := (mkF m 16 #[.val (.int p0), .val (.ref bb1), .val (.int (10 : Int32)), .val (.int (3 : Int32)), .val (.ref u2)] [(.int (3 : Int32)), (.ref bb1)])) rfl rfl (hb hby d1_16) _ ?_
          show Steps p.tables e below (T31.setTop (mkF m 17 #[.val (.int p0), .val (.ref bb1), .val (.int (10 : Int32)), .val (.int (3 : Int32)), .val (.ref u2)] [(.ref u3)])) _
          refine XS.astore X31.here hx rfl (hb hby d1_17) rfl rfl (l' := #[.val (.int p0), .val (.ref bb1), .val (.int (10 : Int32)), .val (.int (3 : Int32)), .val (.ref u3)]) rfl ?_
          show Steps p.tables e below (T31.setTop (mkF m 19 #[.val (.int p0), .val (.ref bb1), .val (.int (10 : Int32)), .val (.int (3 : Int32)), .val (.ref u3)] [])) _
          refine XS.aload X31.here hx rfl (hb hby d1_19) rfl rfl ?_
          show Steps p.tables e below (T31.setTop (mkF m 21 #[.val (.int p0), .val (.ref bb1), .val (.int (10 : Int32)), .val (.int (3 : Int32)), .val (.ref u3)] [(.ref u3)])) _
          refine st36 _ ?_
          show Steps p.tables e below (T36.setTop (mkF m 24 #[.val (.int p0), .val (.ref bb1), .val (.int (10 : Int32)), .val (.int (3 : Int32)), .val (.ref u3)] [(.int (3 : Int32))])) _
          refine XS.iloadN X36.here hx rfl (hb hby d1_24) rfl ?_
          exact kt
        by_cases hc25_38 : (3 : Int32) = p0
        · skip
          obtain ⟨fs, hr, hrun, hended, hW, hsame⟩ := X36.leave (v := some (.ref u3)) (fun h => by rw [Bd.returns] at h; cases h)
          refine ⟨_, _, G37 _ ?_, hrun, hended, _, _, rfl, ?_, ⟨_, rfl⟩, hW, hsame.mono (by decide) (by decide)⟩
          · skip
            show Steps p.tables e below (T36.setTop (mkF m 25 #[.val (.int p0), .val (.ref bb1), .val (.int (10 : Int32)), .val (.int (3 : Int32)), .val (.ref u3)] [(.int p0), (.int (3 : Int32))])) _
            refine XS.icmpNo X36.here hx rfl (hb hby d1_25) rfl (teq hc25_38).2 ?_
            show Steps p.tables e below (T36.setTop (mkF m 28 #[.val (.int p0), .val (.ref bb1), .val (.int (10 : Int32)), .val (.int (3 : Int32)), .val (.ref u3)] [])) _
            refine XS.aload X36.here hx rfl (hb hby d1_28) rfl rfl ?_
            show Steps p.tables e below (T36.setTop (mkF m 30 #[.val (.int p0), .val (.ref bb1), .val (.int (10 : Int32)), .val (.int (3 : Int32)), .val (.ref u3)] [(.ref u3)])) _
            exact retOut X36 hx Bd.returns rfl (Or.inr (Or.inr (Or.inr (Or.inr ⟨rfl, rfl, rfl⟩)))) (hb hby d1_30) hr
          · show Q1 Z p0 va kv u0 u1 u2 u3 u4 u5 u6 u7 u8 u9 h0 n0 _ T36.heap _
            rw [e36]
            exact ⟨by rw [fof, if_neg hc25_23, if_neg hc25_28, if_neg hc25_33, if_pos hc25_38], N1, E1⟩
        · skip
          have G39 : ∀ t, Steps p.tables e below (T36.setTop (mkF m 11 #[.val (.int p0), .val (.ref bb1), .val (.int (10 : Int32)), .val (.int (4 : Int32)), .val (.ref u3)] [(.int (10 : Int32)), (.int (4 : Int32))])) t → Steps p.tables e below (s₁.setTop (entryFrame m #[(.int p0)] 5)) t := by
            intro t kt
            refine G37 _ ?_
            show Steps p.tables e below (T36.setTop (mkF m 25 #[.val (.int p0), .val (.ref bb1), .val (.int (10 : Int32)), .val (.int (3 : Int32)), .val (.ref u3)] [(.int p0), (.int (3 : Int32))])) _
            refine XS.icmpYes X36.here hx rfl (pc0 := 25) (pc' := 31) rfl (hb hby d1_25) rfl (feq hc25_38).2 (by decide) (by decide) ?_
            show Steps p.tables e below (T36.setTop (mkF m 31 #[.val (.int p0), .val (.ref bb1), .val (.int (10 : Int32)), .val (.int (3 : Int32)), .val (.ref u3)] [])) _
            refine XS.iinc X36.here hx rfl (hb hby d1_31) rfl (l' := #[.val (.int p0), .val (.ref bb1), .val (.int (10 : Int32)), .val (.int (4 : Int32)), .val (.ref u3)]) rfl ?_
            show Steps p.tables e below (T36.setTop (mkF m 34 #[.val (.int p0), .val (.ref bb1), .val (.int (10 : Int32)), .val (.int (4 : Int32)), .val (.ref u3)] [])) _
            refine XS.goto X36.here hx rfl (pc0 := 34) (pc' := 9) rfl (hb hby d1_34) (by decide) (by decide) ?_
            show Steps p.tables e below (T36.setTop (mkF m 9 #[.val (.int p0), .val (.ref bb1), .val (.int (10 : Int32)), .val (.int (4 : Int32)), .val (.ref u3)] [])) _
            refine XS.iloadN X36.here hx rfl (hb hby d1_9) rfl ?_
            show Steps p.tables e below (T36.setTop (mkF m 10 #[.val (.int p0), .val (.ref bb1), .val (.int (10 : Int32)), .val (.int (4 : Int32)), .val (.ref u3)] [(.int (4 : Int32))])) _
            refine XS.iloadN X36.here hx rfl (hb hby d1_10) rfl ?_
            exact kt
          obtain ⟨cl40, Ar40, q40, S40, M40, H40, G40⟩ := id V1
          have hin40 : ¬ ((4 : Int32) < 0 ∨ cl40.slots.size ≤ ((4 : Int32)).toNatClampNeg) := inb_of S40 ⟨by decide, by decide⟩
          have hat40 : cl40.slots[((4 : Int32)).toNatClampNeg]? = some (.ref u4) := H40.at hin40 rfl
          obtain ⟨T41, X41, e41, st41⟩ := getF X36 hx hZ hown (host := "") (Or.inl (hw _ (List.mem_of_getElem? (i := 29) rfl))) Via.refl e36 f10 (g := (mkF m 21 #[.val (.int p0), .val (.ref bb1), .val (.int (10 : Int32)), .val (.int (4 : Int32)), .val (.ref u4)] [(.ref u4)])) rfl rfl (hb hby d1_21)
          have G42 : ∀ t, Steps p.tables e below (T41.setTop (mkF m 25 #[.val (.int p0), .val (.ref bb1), .val (.int (10 : Int32)), .val (.int (4 : Int32)), .val (.ref u4)] [(.int p0), (.int (4 : Int32))])) t → Steps p.tables e below (s₁.setTop (entryFrame m #[(.int p0)] 5)) t := by
            intro t kt
            refine G39 _ ?_
            show Steps p.tables e below (T36.setTop (mkF m 11 #[.val (.int p0), .val (.ref bb1), .val (.int (10 : Int32)), .val (.int (4 : Int32)), .val (.ref u3)] [(.int (10 : Int32)), (.int (4 : Int32))])) _
            refine XS.icmpNo X36.here hx rfl (hb hby d1_11) rfl (tlt (by decide)).2.1 ?_
            show Steps p.tables e below (T36.setTop (mkF m 14 #[.val (.int p0), .val (.ref bb1), .val (.int (10 : Int32)), .val (.int (4 : Int32)), .val (.ref u3)] [])) _
            refine XS.aloadN X36.here hx rfl (hb hby d1_14) rfl rfl ?_
            show Steps p.tables e below (T36.setTop (mkF m 15 #[.val (.int p0), .val (.ref bb1), .val (.int (10 : Int32)), .val (.int (4 : Int32)), .val (.ref u3)] [(.ref bb1)])) _
            refine XS.iloadN X36.here hx rfl (hb hby d1_15) rfl ?_
            show Steps p.tables e below (T36.setTop (mkF m 16 #[.val (.int p0), .val (.ref bb1), .val (.int (10 : Int32)), .val (.int (4 : Int32)), .val (.ref u3)] [(.int (4 : Int32)), (.ref bb1)])) _
            refine X36.aaload hx (j := (4 : Int32)) (v := (.ref u4)) (by rw [e36]; exact Ar40.1) (State.isArrayOf_alike hZ.alike Ar40.2.1) rfl Ar40.2.2 hin40 hat40 (g := (mkF m 16 #[.val (.int p0), .val (.ref bb1), .val (.int (10 : Int32)), .val (.int (4 : Int32)), .val (.ref u3)] [(.int (4 : Int32)), (.ref bb1)])) rfl rfl (hb hby d1_16) _ ?_
            show Steps p.tables e below (T36.setTop (mkF m 17 #[.val (.int p0), .val (.ref bb1), .val (.int (10 : Int32)), .val (.int (4 : Int32)), .val (.ref u3)] [(.ref u4)])) _
            refine XS.astore X36.here hx rfl (hb hby d1_17) rfl rfl (l' := #[.val (.int p0), .val (.ref bb1), .val (.int (10 : Int32)), .val (.int (4 : Int32)), .val (.ref u4)]) rfl ?_
            show Steps p.tables e below (T36.setTop (mkF m 19 #[.val (.int p0), .val (.ref bb1), .val (.int (10 : Int32)), .val (.int (4 : Int32)), .val (.ref u4)] [])) _
            refine XS.aload X36.here hx rfl (hb hby d1_19) rfl rfl ?_
            show Steps p.tables e below (T36.setTop (mkF m 21 #[.val (.int p0), .val (.ref bb1), .val (.int (10 : Int32)), .val (.int (4 : Int32)), .val (.ref u4)] [(.ref u4)])) _
            refine st41 _ ?_
            show Steps p.tables e below (T41.setTop (mkF m 24 #[.val (.int p0), .val (.ref bb1), .val (.int (10 : Int32)), .val (.int (4 : Int32)), .val (.ref u4)] [(.int (4 : Int32))])) _
            refine XS.iloadN X41.here hx rfl (hb hby d1_24) rfl ?_
            exact kt
          by_cases hc25_43 : (4 : Int32) = p0
          · skip
            obtain ⟨fs, hr, hrun, hended, hW, hsame⟩ := X41.leave (v := some (.ref u4)) (fun h => by rw [Bd.returns] at h; cases h)
            refine ⟨_, _, G42 _ ?_, hrun, hended, _, _, rfl, ?_, ⟨_, rfl⟩, hW, hsame.mono (by decide) (by decide)⟩
            · skip
              show Steps p.tables e below (T41.setTop (mkF m 25 #[.val (.int p0), .val (.ref bb1), .val (.int (10 : Int32)), .val (.int (4 : Int32)), .val (.ref u4)] [(.int p0), (.int (4 : Int32))])) _
              refine XS.icmpNo X41.here hx rfl (hb hby d1_25) rfl (teq hc25_43).2 ?_
              show Steps p.tables e below (T41.setTop (mkF m 28 #[.val (.int p0), .val (.ref bb1), .val (.int (10 : Int32)), .val (.int (4 : Int32)), .val (.ref u4)] [])) _
              refine XS.aload X41.here hx rfl (hb hby d1_28) rfl rfl ?_
              show Steps p.tables e below (T41.setTop (mkF m 30 #[.val (.int p0), .val (.ref bb1), .val (.int (10 : Int32)), .val (.int (4 : Int32)), .val (.ref u4)] [(.ref u4)])) _
              exact retOut X41 hx Bd.returns rfl (Or.inr (Or.inr (Or.inr (Or.inr ⟨rfl, rfl, rfl⟩)))) (hb hby d1_30) hr
            · show Q1 Z p0 va kv u0 u1 u2 u3 u4 u5 u6 u7 u8 u9 h0 n0 _ T41.heap _
              rw [e41]
              exact ⟨by rw [fof, if_neg hc25_23, if_neg hc25_28, if_neg hc25_33, if_neg hc25_38, if_pos hc25_43], N1, E1⟩
          · skip
            have G44 : ∀ t, Steps p.tables e below (T41.setTop (mkF m 11 #[.val (.int p0), .val (.ref bb1), .val (.int (10 : Int32)), .val (.int (5 : Int32)), .val (.ref u4)] [(.int (10 : Int32)), (.int (5 : Int32))])) t → Steps p.tables e below (s₁.setTop (entryFrame m #[(.int p0)] 5)) t := by
              intro t kt
              refine G42 _ ?_
              show Steps p.tables e below (T41.setTop (mkF m 25 #[.val (.int p0), .val (.ref bb1), .val (.int (10 : Int32)), .val (.int (4 : Int32)), .val (.ref u4)] [(.int p0), (.int (4 : Int32))])) _
              refine XS.icmpYes X41.here hx rfl (pc0 := 25) (pc' := 31) rfl (hb hby d1_25) rfl (feq hc25_43).2 (by decide) (by decide) ?_
              show Steps p.tables e below (T41.setTop (mkF m 31 #[.val (.int p0), .val (.ref bb1), .val (.int (10 : Int32)), .val (.int (4 : Int32)), .val (.ref u4)] [])) _
              refine XS.iinc X41.here hx rfl (hb hby d1_31) rfl (l' := #[.val (.int p0), .val (.ref bb1), .val (.int (10 : Int32)), .val (.int (5 : Int32)), .val (.ref u4)]) rfl ?_
              show Steps p.tables e below (T41.setTop (mkF m 34 #[.val (.int p0), .val (.ref bb1), .val (.int (10 : Int32)), .val (.int (5 : Int32)), .val (.ref u4)] [])) _
              refine XS.goto X41.here hx rfl (pc0 := 34) (pc' := 9) rfl (hb hby d1_34) (by decide) (by decide) ?_
              show Steps p.tables e below (T41.setTop (mkF m 9 #[.val (.int p0), .val (.ref bb1), .val (.int (10 : Int32)), .val (.int (5 : Int32)), .val (.ref u4)] [])) _
              refine XS.iloadN X41.here hx rfl (hb hby d1_9) rfl ?_
              show Steps p.tables e below (T41.setTop (mkF m 10 #[.val (.int p0), .val (.ref bb1), .val (.int (10 : Int32)), .val (.int (5 : Int32)), .val (.ref u4)] [(.int (5 : Int32))])) _
              refine XS.iloadN X41.here hx rfl (hb hby d1_10) rfl ?_
              exact kt
            obtain ⟨cl45, Ar45, q45, S45, M45, H45, G45⟩ := id V1
            have hin45 : ¬ ((5 : Int32) < 0 ∨ cl45.slots.size ≤ ((5 : Int32)).toNatClampNeg) := inb_of S45 ⟨by decide, by decide⟩
            have hat45 : cl45.slots[((5 : Int32)).toNatClampNeg]? = some (.ref u5) := H45.at hin45 rfl
            obtain ⟨T46, X46, e46, st46⟩ := getF X41 hx hZ hown (host := "") (Or.inl (hw _ (List.mem_of_getElem? (i := 29) rfl))) Via.refl e41 f11 (g := (mkF m 21 #[.val (.int p0), .val (.ref bb1), .val (.int (10 : Int32)), .val (.int (5 : Int32)), .val (.ref u5)] [(.ref u5)])) rfl rfl (hb hby d1_21)
            have G47 : ∀ t, Steps p.tables e below (T46.setTop (mkF m 25 #[.val (.int p0), .val (.ref bb1), .val (.int (10 : Int32)), .val (.int (5 : Int32)), .val (.ref u5)] [(.int p0), (.int (5 : Int32))])) t → Steps p.tables e below (s₁.setTop (entryFrame m #[(.int p0)] 5)) t := by
              intro t kt
              refine G44 _ ?_
              show Steps p.tables e below (T41.setTop (mkF m 11 #[.val (.int p0), .val (.ref bb1), .val (.int (10 : Int32)), .val (.int (5 : Int32)), .val (.ref u4)] [(.int (10 : Int32)), (.int (5 : Int32))])) _
              refine XS.icmpNo X41.here hx rfl (hb hby d1_11) rfl (tlt (by decide)).2.1 ?_
              show Steps p.tables e below (T41.setTop (mkF m 14 #[.val (.int p0), .val (.ref bb1), .val (.int (10 : Int32)), .val (.int (5 : Int32)), .val (.ref u4)] [])) _
              refine XS.aloadN X41.here hx rfl (hb hby d1_14) rfl rfl ?_
              show Steps p.tables e below (T41.setTop (mkF m 15 #[.val (.int p0), .val (.ref bb1), .val (.int (10 : Int32)), .val (.int (5 : Int32)), .val (.ref u4)] [(.ref bb1)])) _
              refine XS.iloadN X41.here hx rfl (hb hby d1_15) rfl ?_
              show Steps p.tables e below (T41.setTop (mkF m 16 #[.val (.int p0), .val (.ref bb1), .val (.int (10 : Int32)), .val (.int (5 : Int32)), .val (.ref u4)] [(.int (5 : Int32)), (.ref bb1)])) _
              refine X41.aaload hx (j := (5 : Int32)) (v := (.ref u5)) (by rw [e41]; exact Ar45.1) (State.isArrayOf_alike hZ.alike Ar45.2.1) rfl Ar45.2.2 hin45 hat45 (g := (mkF m 16 #[.val (.int p0), .val (.ref bb1), .val (.int (10 : Int32)), .val (.int (5 : Int32)), .val (.ref u4)] [(.int (5 : Int32)), (.ref bb1)])) rfl rfl (hb hby d1_16) _ ?_
              show Steps p.tables e below (T41.setTop (mkF m 17 #[.val (.int p0), .val (.ref bb1), .val (.int (10 : Int32)), .val (.int (5 : Int32)), .val (.ref u4)] [(.ref u5)])) _
              refine XS.astore X41.here hx rfl (hb hby d1_17) rfl rfl (l' := #[.val (.int p0), .val (.ref bb1), .val (.int (10 : Int32)), .val (.int (5 : Int32)), .val (.ref u5)]) rfl ?_
              show Steps p.tables e below (T41.setTop (mkF m 19 #[.val (.int p0), .val (.ref bb1), .val (.int (10 : Int32)), .val (.int (5 : Int32)), .val (.ref u5)] [])) _
              refine XS.aload X41.here hx rfl (hb hby d1_19) rfl rfl ?_
              show Steps p.tables e below (T41.setTop (mkF m 21 #[.val (.int p0), .val (.ref bb1), .val (.int (10 : Int32)), .val (.int (5 : Int32)), .val (.ref u5)] [(.ref u5)])) _
              refine st46 _ ?_
              show Steps p.tables e below (T46.setTop (mkF m 24 #[.val (.int p0), .val (.ref bb1), .val (.int (10 : Int32)), .val (.int (5 : Int32)), .val (.ref u5)] [(.int (5 : Int32))])) _
              refine XS.iloadN X46.here hx rfl (hb hby d1_24) rfl ?_
              exact kt
            by_cases hc25_48 : (5 : Int32) = p0
            · skip
              obtain ⟨fs, hr, hrun, hended, hW, hsame⟩ := X46.leave (v := some (.ref u5)) (fun h => by rw [Bd.returns] at h; cases h)
              refine ⟨_, _, G47 _ ?_, hrun, hended, _, _, rfl, ?_, ⟨_, rfl⟩, hW, hsame.mono (by decide) (by decide)⟩
              · skip
                show Steps p.tables e below (T46.setTop (mkF m 25 #[.val (.int p0), .val (.ref bb1), .val (.int (10 : Int32)), .val (.int (5 : Int32)), .val (.ref u5)] [(.int p0), (.int (5 : Int32))])) _
                refine XS.icmpNo X46.here hx rfl (hb hby d1_25) rfl (teq hc25_48).2 ?_
                show Steps p.tables e below (T46.setTop (mkF m 28 #[.val (.int p0), .val (.ref bb1), .val (.int (10 : Int32)), .val (.int (5 : Int32)), .val (.ref u5)] [])) _
                refine XS.aload X46.here hx rfl (hb hby d1_28) rfl rfl ?_
                show Steps p.tables e below (T46.setTop (mkF m 30 #[.val (.int p0), .val (.ref bb1), .val (.int (10 : Int32)), .val (.int (5 : Int32)), .val (.ref u5)] [(.ref u5)])) _
                exact retOut X46 hx Bd.returns rfl (Or.inr (Or.inr (Or.inr (Or.inr ⟨rfl, rfl, rfl⟩)))) (hb hby d1_30) hr
              · show Q1 Z p0 va kv u0 u1 u2 u3 u4 u5 u6 u7 u8 u9 h0 n0 _ T46.heap _
                rw [e46]
                exact ⟨by rw [fof, if_neg hc25_23, if_neg hc25_28, if_neg hc25_33, if_neg hc25_38, if_neg hc25_43, if_pos hc25_48], N1, E1⟩
            · skip
              have G49 : ∀ t, Steps p.tables e below (T46.setTop (mkF m 11 #[.val (.int p0), .val (.ref bb1), .val (.int (10 : Int32)), .val (.int (6 : Int32)), .val (.ref u5)] [(.int (10 : Int32)), (.int (6 : Int32))])) t → Steps p.tables e below (s₁.setTop (entryFrame m #[(.int p0)] 5)) t := by
                intro t kt
                refine G47 _ ?_
                show Steps p.tables e below (T46.setTop (mkF m 25 #[.val (.int p0), .val (.ref bb1), .val (.int (10 : Int32)), .val (.int (5 : Int32)), .val (.ref u5)] [(.int p0), (.int (5 : Int32))])) _
                refine XS.icmpYes X46.here hx rfl (pc0 := 25) (pc' := 31) rfl (hb hby d1_25) rfl (feq hc25_48).2 (by decide) (by decide) ?_
                show Steps p.tables e below (T46.setTop (mkF m 31 #[.val (.int p0), .val (.ref bb1), .val (.int (10 : Int32)), .val (.int (5 : Int32)), .val (.ref u5)] [])) _
                refine XS.iinc X46.here hx rfl (hb hby d1_31) rfl (l' := #[.val (.int p0), .val (.ref bb1), .val (.int (10 : Int32)), .val (.int (6 : Int32)), .val (.ref u5)]) rfl ?_
                show Steps p.tables e below (T46.setTop (mkF m 34 #[.val (.int p0), .val (.ref bb1), .val (.int (10 : Int32)), .val (.int (6 : Int32)), .val (.ref u5)] [])) _
                refine XS.goto X46.here hx rfl (pc0 := 34) (pc' := 9) rfl (hb hby d1_34) (by decide) (by decide) ?_
                show Steps p.tables e below (T46.setTop (mkF m 9 #[.val (.int p0), .val (.ref bb1), .val (.int (10 : Int32)), .val (.int (6 : Int32)), .val (.ref u5)] [])) _
                refine XS.iloadN X46.here hx rfl (hb hby d1_9) rfl ?_
                show Steps p.tables e below (T46.setTop (mkF m 10 #[.val (.int p0), .val (.ref bb1), .val (.int (10 : Int32)), .val (.int (6 : Int32)), .val (.ref u5)] [(.int (6 : Int32))])) _
                refine XS.iloadN X46.here hx rfl (hb hby d1_10) rfl ?_
                exact kt
              obtain ⟨cl50, Ar50, q50, S50, M50, H50, G50⟩ := id V1
              have hin50 : ¬ ((6 : Int32) < 0 ∨ cl50.slots.size ≤ ((6 : Int32)).toNatClampNeg) := inb_of S50 ⟨by decide, by decide⟩
              have hat50 : cl50.slots[((6 : Int32)).toNatClampNeg]? = some (.ref u6) := H50.at hin50 rfl
              obtain ⟨T51, X51, e51, st51⟩ := getF X46 hx hZ hown (host := "") (Or.inl (hw _ (List.mem_of_getElem? (i := 29) rfl))) Via.refl e46 f12 (g := (mkF m 21 #[.val (.int p0), .val (.ref bb1), .val (.int (10 : Int32)), .val (.int (6 : Int32)), .val (.ref u6)] [(.ref u6)])) rfl rfl (hb hby d1_21)
              have G52 : ∀ t, Steps p.tables e below (T51.setTop (mkF m 25 #[.val (.int p0), .val (.ref bb1), .val (.int (10 : Int32)), .val (.int (6 : Int32)), .val (.ref u6)] [(.int p0), (.int (6 : Int32))])) t → Steps p.tables e below (s₁.setTop (entryFrame m #[(.int p0)] 5)) t := by
                intro t kt
                refine G49 _ ?_
                show Steps p.tables e below (T46.setTop (mkF m 11 #[.val (.int p0), .val (.ref bb1), .val (.int (10 : Int32)), .val (.int (6 : Int32)), .val (.ref u5)] [(.int (10 : Int32)), (.int (6 : Int32))])) _
                refine XS.icmpNo X46.here hx rfl (hb hby d1_11) rfl (tlt (by decide)).2.1 ?_
                show Steps p.tables e below (T46.setTop (mkF m 14 #[.val (.int p0), .val (.ref bb1), .val (.int (10 : Int32)), .val (.int (6 : Int32)), .val (.ref u5)] [])) _
                refine XS.aloadN X46.here hx rfl (hb hby d1_14) rfl rfl ?_
                show Steps p.tables e below (T46.setTop (mkF m 15 #[.val (.int p0), .val (.ref bb1), .val (.int (10 : Int32)), .val (.int (6 : Int32)), .val (.ref u5)] [(.ref bb1)])) _
                refine XS.iloadN X46.here hx rfl (hb hby d1_15) rfl ?_
                show Steps p.tables e below (T46.setTop (mkF m 16 #[.val (.int p0), .val (.ref bb1), .val (.int (10 : Int32)), .val (.int (6 : Int32)), .val (.ref u5)] [(.int (6 : Int32)), (.ref bb1)])) _
                refine X46.aaload hx (j := (6 : Int32)) (v := (.ref u6)) (by rw [e46]; exact Ar50.1) (State.isArrayOf_alike hZ.alike Ar50.2.1) rfl Ar50.2.2 hin50 hat50 (g := (mkF m 16 #[.val (.int p0), .val (.ref bb1), .val (.int (10 : Int32)), .val (.int (6 : Int32)), .val (.ref u5)] [(.int (6 : Int32)), (.ref bb1)])) rfl rfl (hb hby d1_16) _ ?_
                show Steps p.tables e below (T46.setTop (mkF m 17 #[.val (.int p0), .val (.ref bb1), .val (.int (10 : Int32)), .val (.int (6 : Int32)), .val (.ref u5)] [(.ref u6)])) _
                refine XS.astore X46.here hx rfl (hb hby d1_17) rfl rfl (l' := #[.val (.int p0), .val (.ref bb1), .val (.int (10 : Int32)), .val (.int (6 : Int32)), .val (.ref u6)]) rfl ?_
                show Steps p.tables e below (T46.setTop (mkF m 19 #[.val (.int p0), .val (.ref bb1), .val (.int (10 : Int32)), .val (.int (6 : Int32)), .val (.ref u6)] [])) _
                refine XS.aload X46.here hx rfl (hb hby d1_19) rfl rfl ?_
                show Steps p.tables e below (T46.setTop (mkF m 21 #[.val (.int p0), .val (.ref bb1), .val (.int (10 : Int32)), .val (.int (6 : Int32)), .val (.ref u6)] [(.ref u6)])) _
                refine st51 _ ?_
                show Steps p.tables e below (T51.setTop (mkF m 24 #[.val (.int p0), .val (.ref bb1), .val (.int (10 : Int32)), .val (.int (6 : Int32)), .val (.ref u6)] [(.int (6 : Int32))])) _
                refine XS.iloadN X51.here hx rfl (hb hby d1_24) rfl ?_
                exact kt
              by_cases hc25_53 : (6 : Int32) = p0
              · skip
                obtain ⟨fs, hr, hrun, hended, hW, hsame⟩ := X51.leave (v := some (.ref u6)) (fun h => by rw [Bd.returns] at h; cases h)
                refine ⟨_, _, G52 _ ?_, hrun, hended, _, _, rfl, ?_, ⟨_, rfl⟩, hW, hsame.mono (by decide) (by decide)⟩
                · skip
                  show Steps p.tables e below (T51.setTop (mkF m 25 #[.val (.int p0), .val (.ref bb1), .val (.int (10 : Int32)), .val (.int (6 : Int32)), .val (.ref u6)] [(.int p0), (.int (6 : Int32))])) _
                  refine XS.icmpNo X51.here hx rfl (hb hby d1_25) rfl (teq hc25_53).2 ?_
                  show Steps p.tables e below (T51.setTop (mkF m 28 #[.val (.int p0), .val (.ref bb1), .val (.int (10 : Int32)), .val (.int (6 : Int32)), .val (.ref u6)] [])) _
                  refine XS.aload X51.here hx rfl (hb hby d1_28) rfl rfl ?_
                  show Steps p.tables e below (T51.setTop (mkF m 30 #[.val (.int p0), .val (.ref bb1), .val (.int (10 : Int32)), .val (.int (6 : Int32)), .val (.ref u6)] [(.ref u6)])) _
                  exact retOut X51 hx Bd.returns rfl (Or.inr (Or.inr (Or.inr (Or.inr ⟨rfl, rfl, rfl⟩)))) (hb hby d1_30) hr
                · show Q1 Z p0 va kv u0 u1 u2 u3 u4 u5 u6 u7 u8 u9 h0 n0 _ T51.heap _
                  rw [e51]
                  exact ⟨by rw [fof, if_neg hc25_23, if_neg hc25_28, if_neg hc25_33, if_neg hc25_38, if_neg hc25_43, if_neg hc25_48, if_pos hc25_53], N1, E1⟩
              · skip
                have G54 : ∀ t, Steps p.tables e below (T51.setTop (mkF m 11 #[.val (.int p0), .val (.ref bb1), .val (.int (10 : Int32)), .val (.int (7 : Int32)), .val (.ref u6)] [(.int (10 : Int32)), (.int (7 : Int32))])) t → Steps p.tables e below (s₁.setTop (entryFrame m #[(.int p0)] 5)) t := by
                  intro t kt
                  refine G52 _ ?_
                  show Steps p.tables e below (T51.setTop (mkF m 25 #[.val (.int p0), .val (.ref bb1), .val (.int (10 : Int32)), .val (.int (6 : Int32)), .val (.ref u6)] [(.int p0), (.int (6 : Int32))])) _
                  refine XS.icmpYes X51.here hx rfl (pc0 := 25) (pc' := 31) rfl (hb hby d1_25) rfl (feq hc25_53).2 (by decide) (by decide) ?_
                  show Steps p.tables e below (T51.setTop (mkF m 31 #[.val (.int p0), .val (.ref bb1), .val (.int (10 : Int32)), .val (.int (6 : Int32)), .val (.ref u6)] [])) _
                  refine XS.iinc X51.here hx rfl (hb hby d1_31) rfl (l' := #[.val (.int p0), .val (.ref bb1), .val (.int (10 : Int32)), .val (.int (7 : Int32)), .val (.ref u6)]) rfl ?_
                  show Steps p.tables e below (T51.setTop (mkF m 34 #[.val (.int p0), .val (.ref bb1), .val (.int (10 : Int32)), .val (.int (7 : Int32)), .val (.ref u6)] [])) _
                  refine XS.goto X51.here hx rfl (pc0 := 34) (pc' := 9) rfl (hb hby d1_34) (by decide) (by decide) ?_
                  show Steps p.tables e below (T51.setTop (mkF m 9 #[.val (.int p0), .val (.ref bb1), .val (.int (10 : Int32)), .val (.int (7 : Int32)), .val (.ref u6)] [])) _
                  refine XS.iloadN X51.here hx rfl (hb hby d1_9) rfl ?_
                  show Steps p.tables e below (T51.setTop (mkF m 10 #[.val (.int p0), .val (.ref bb1), .val (.int (10 : Int32)), .val (.int (7 : Int32)), .val (.ref u6)] [(.int (7 : Int32))])) _
                  refine XS.iloadN X51.here hx rfl (hb hby d1_10) rfl ?_
                  exact kt
                obtain ⟨cl55, Ar55, q55, S55, M55, H55, G55⟩ := id V1
                have hin55 : ¬ ((7 : Int32) < 0 ∨ cl55.slots.size ≤ ((7 : Int32)).toNatClampNeg) := inb_of S55 ⟨by decide, by decide⟩
                have hat55 : cl55.slots[((7 : Int32)).toNatClampNeg]? = some (.ref u7) := H55.at hin55 rfl
                obtain ⟨T56, X56, e56, st56⟩ := getF X51 hx hZ hown (host := "") (Or.inl (hw _ (List.mem_of_getElem? (i := 29) rfl))) Via.refl e51 f13 (g := (mkF m 21 #[.val (.int p0), .val (.ref bb1), .val (.int (10 : Int32)), .val (.int (7 : Int32)), .val (.ref u7)] [(.ref u7)])) rfl rfl (hb hby d1_21)
                have G57 : ∀ t, Steps p.tables e below (T56.setTop (mkF m 25 #[.val (.int p0), .val (.ref bb1), .val (.int (10 : Int32)), .val (.int (7 : Int32)), .val (.ref u7)] [(.int p0), (.int (7 : Int32))])) t → Steps p.tables e below (s₁.setTop (entryFrame m #[(.int p0)] 5)) t := by
                  intro t kt
                  refine G54 _ ?_
                  show Steps p.tables e below (T51.setTop (mkF m 11 #[.val (.int p0), .val (.ref bb1), .val (.int (10 : Int32)), .val (.int (7 : Int32)), .val (.ref u6)] [(.int (10 : Int32)), (.int (7 : Int32))])) _
                  refine XS.icmpNo X51.here hx rfl (hb hby d1_11) rfl (tlt (by decide)).2.1 ?_
                  show Steps p.tables e below (T51.setTop (mkF m 14 #[.val (.int p0), .val (.ref bb1), .val (.int (10 : Int32)), .val (.int (7 : Int32)), .val (.ref u6)] [])) _
                  refine XS.aloadN X51.here hx rfl (hb hby d1_14) rfl rfl ?_
                  show Steps p.tables e below (T51.setTop (mkF m 15 #[.val (.int p0), .val (.ref bb1), .val (.int (10 : Int32)), .val (.int (7 : Int32)), .val (.ref u6)] [(.ref bb1)])) _
                  refine XS.iloadN X51.here hx rfl (hb hby d1_15) rfl ?_
                  show Steps p.tables e below (T51.setTop (mkF m 16 #[.val (.int p0), .val (.ref bb1), .val (.int (10 : Int32)), .val (.int (7 : Int32)), .val (.ref u6)] [(.int (7 : Int32)), (.ref bb1)])) _
                  refine X51.aaload hx (j := (7 : Int32)) (v := (.ref u7)) (by rw [e51]; exact Ar55.1) (State.isArrayOf_alike hZ.alike Ar55.2.1) rfl Ar55.2.2 hin55 hat55 (g := (mkF m 16 #[.val (.int p0), .val (.ref bb1), .val (.int (10 : Int32)), .val (.int (7 : Int32)), .val (.ref u6)] [(.int (7 : Int32)), (.ref bb1)])) rfl rfl (hb hby d1_16) _ ?_
                  show Steps p.tables e below (T51.setTop (mkF m 17 #[.val (.int p0), .val (.ref bb1), .val (.int (10 : Int32)), .val (.int (7 : Int32)), .val (.ref u6)] [(.ref u7)])) _
                  refine XS.astore X51.here hx rfl (hb hby d1_17) rfl rfl (l' := #[.val (.int p0), .val (.ref bb1), .val (.int (10 : Int32)), .val (.int (7 : Int32)), .val (.ref u7)]) rfl ?_
                  show Steps p.tables e below (T51.setTop (mkF m 19 #[.val (.int p0), .val (.ref bb1), .val (.int (10 : Int32)), .val (.int (7 : Int32)), .val (.ref u7)] [])) _
                  refine XS.aload X51.here hx rfl (hb hby d1_19) rfl rfl ?_
                  show Steps p.tables e below (T51.setTop (mkF m 21 #[.val (.int p0), .val (.ref bb1), .val (.int (10 : Int32)), .val (.int (7 : Int32)), .val (.ref u7)] [(.ref u7)])) _
                  refine st56 _ ?_
                  show Steps p.tables e below (T56.setTop (mkF m 24 #[.val (.int p0), .val (.ref bb1), .val (.int (10 : Int32)), .val (.int (7 : Int32)), .val (.ref u7)] [(.int (7 : Int32))])) _
                  refine XS.iloadN X56.here hx rfl (hb hby d1_24) rfl ?_
                  exact kt
                by_cases hc25_58 : (7 : Int32) = p0
                · skip
                  obtain ⟨fs, hr, hrun, hended, hW, hsame⟩ := X56.leave (v := some (.ref u7)) (fun h => by rw [Bd.returns] at h; cases h)
                  refine ⟨_, _, G57 _ ?_, hrun, hended, _, _, rfl, ?_, ⟨_, rfl⟩, hW, hsame.mono (by decide) (by decide)⟩
                  · skip
                    show Steps p.tables e below (T56.setTop (mkF m 25 #[.val (.int p0), .val (.ref bb1), .val (.int (10 : Int32)), .val (.int (7 : Int32)), .val (.ref u7)] [(.int p0), (.int (7 : Int32))])) _
                    refine XS.icmpNo X56.here hx rfl (hb hby d1_25) rfl (teq hc25_58).2 ?_
                    show Steps p.tables e below (T56.setTop (mkF m 28 #[.val (.int p0), .val (.ref bb1), .val (.int (10 : Int32)), .val (.int (7 : Int32)), .val (.ref u7)] [])) _
                    refine XS.aload X56.here hx rfl (hb hby d1_28) rfl rfl ?_
                    show Steps p.tables e below (T56.setTop (mkF m 30 #[.val (.int p0), .val (.ref bb1), .val (.int (10 : Int32)), .val (.int (7 : Int32)), .val (.ref u7)] [(.ref u7)])) _
                    exact retOut X56 hx Bd.returns rfl (Or.inr (Or.inr (Or.inr (Or.inr ⟨rfl, rfl, rfl⟩)))) (hb hby d1_30) hr
                  · show Q1 Z p0 va kv u0 u1 u2 u3 u4 u5 u6 u7 u8 u9 h0 n0 _ T56.heap _
                    rw [e56]
                    exact ⟨by rw [fof, if_neg hc25_23, if_neg hc25_28, if_neg hc25_33, if_neg hc25_38, if_neg hc25_43, if_neg hc25_48, if_neg hc25_53, if_pos hc25_58], N1, E1⟩
                · skip
                  have G59 : ∀ t, Steps p.tables e below (T56.setTop (mkF m 11 #[.val (.int p0), .val (.ref bb1), .val (.int (10 : Int32)), .val (.int (8 : Int32)), .val (.ref u7)] [(.int (10 : Int32)), (.int (8 : Int32))])) t → Steps p.tables e below (s₁.setTop (entryFrame m #[(.int p0)] 5)) t := by
                    intro t kt
                    refine G57 _ ?_
                    show Steps p.tables e below (T56.setTop (mkF m 25 #[.val (.int p0), .val (.ref bb1), .val (.int (10 : Int32)), .val (.int (7 : Int32)), .val (.ref u7)] [(.int p0), (.int (7 : Int32))])) _
                    refine XS.icmpYes X56.here hx rfl (pc0 := 25) (pc' := 31) rfl (hb hby d1_25) rfl (feq hc25_58).2 (by decide) (by decide) ?_
                    show Steps p.tables e below (T56.setTop (mkF m 31 #[.val (.int p0), .val (.ref bb1), .val (.int (10 : Int32)), .val (.int (7 : Int32)), .val (.ref u7)] [])) _
                    refine XS.iinc X56.here hx rfl (hb hby d1_31) rfl (l' := #[.val (.int p0), .val (.ref bb1), .val (.int (10 : Int32)), .val (.int (8 : Int32)), .val (.ref u7)]) rfl ?_
                    show Steps p.tables e below (T56.setTop (mkF m 34 #[.val (.int p0), .val (.ref bb1), .val (.int (10 : Int32)), .val (.int (8 : Int32)), .val (.ref u7)] [])) _
                    refine XS.goto X56.here hx rfl (pc0 := 34) (pc' := 9) rfl (hb hby d1_34) (by decide) (by decide) ?_
                    show Steps p.tables e below (T56.setTop (mkF m 9 #[.val (.int p0), .val (.ref bb1), .val (.int (10 : Int32)), .val (.int (8 : Int32)), .val (.ref u7)] [])) _
                    refine XS.iloadN X56.here hx rfl (hb hby d1_9) rfl ?_
                    show Steps p.tables e below (T56.setTop (mkF m 10 #[.val (.int p0), .val (.ref bb1), .val (.int (10 : Int32)), .val (.int (8 : Int32)), .val (.ref u7)] [(.int (8 : Int32))])) _
                    refine XS.iloadN X56.here hx rfl (hb hby d1_10) rfl ?_
                    exact kt
                  obtain ⟨cl60, Ar60, q60, S60, M60, H60, G60⟩ := id V1
                  have hin60 : ¬ ((8 : Int32) < 0 ∨ cl60.slots.size ≤ ((8 : Int32)).toNatClampNeg) := inb_of S60 ⟨by decide, by decide⟩
                  have hat60 : cl60.slots[((8 : Int32)).toNatClampNeg]? = some (.ref u8) := H60.at hin60 rfl
                  obtain ⟨T61, X61, e61, st61⟩ := getF X56 hx hZ hown (host := "") (Or.inl (hw _ (List.mem_of_getElem? (i := 29) rfl))) Via.refl e56 f14 (g := (mkF m 21 #[.val (.int p0), .val (.ref bb1), .val (.int (10 : Int32)), .val (.int (8 : Int32)), .val (.ref u8)] [(.ref u8)])) rfl rfl (hb hby d1_21)
                  have G62 : ∀ t, Steps p.tables e below (T61.setTop (mkF m 25 #[.val (.int p0), .val (.ref bb1), .val (.int (10 : Int32)), .val (.int (8 : Int32)), .val (.ref u8)] [(.int p0), (.int (8 : Int32))])) t → Steps p.tables e below (s₁.setTop (entryFrame m #[(.int p0)] 5)) t := by
                    intro t kt
                    refine G59 _ ?_
                    show Steps p.tables e below (T56.setTop (mkF m 11 #[.val (.int p0), .val (.ref bb1), .val (.int (10 : Int32)), .val (.int (8 : Int32)), .val (.ref u7)] [(.int (10 : Int32)), (.int (8 : Int32))])) _
                    refine XS.icmpNo X56.here hx rfl (hb hby d1_11) rfl (tlt (by decide)).2.1 ?_
                    show Steps p.tables e below (T56.setTop (mkF m 14 #[.val (.int p0), .val (.ref bb1), .val (.int (10 : Int32)), .val (.int (8 : Int32)), .val (.ref u7)] [])) _
                    refine XS.aloadN X56.here hx rfl (hb hby d1_14) rfl rfl ?_
                    show Steps p.tables e below (T56.setTop (mkF m 15 #[.val (.int p0), .val (.ref bb1), .val (.int (10 : Int32)), .val (.int (8 : Int32)), .val (.ref u7)] [(.ref bb1)])) _
                    refine XS.iloadN X56.here hx rfl (hb hby d1_15) rfl ?_
                    show Steps p.tables e below (T56.setTop (mkF m 16 #[.val (.int p0), .val (.ref bb1), .val (.int (10 : Int32)), .val (.int (8 : Int32)), .val (.ref u7)] [(.int (8 : Int32)), (.ref bb1)])) _
                    refine X56.aaload hx (j := (8 : Int32)) (v := (.ref u8)) (by rw [e56]; exact Ar60.1) (State.isArrayOf_alike hZ.alike Ar60.2.1) rfl Ar60.2.2 hin60 hat60 (g := (mkF m 16 #[.val (.int p0), .val (.ref bb1), .val (.int (10 : Int32)), .val (.int (8 : Int32)), .val (.ref u7)] [(.int (8 : Int32)), (.ref bb1)])) rfl rfl (hb hby d1_16) _ ?_
                    show Steps p.tables e below (T56.setTop (mkF m 17 #[.val (.int p0), .val (.ref bb1), .val (.int (10 : Int32)), .val (.int (8 : Int32)), .val (.ref u7)] [(.ref u8)])) _
                    refine XS.astore X56.here hx rfl (hb hby d1_17) rfl rfl (l' := #[.val (.int p0), .val (.ref bb1), .val (.int (10 : Int32)), .val (.int (8 : Int32)), .val (.ref u8)]) rfl ?_
                    show Steps p.tables e below (T56.setTop (mkF m 19 #[.val (.int p0), .val (.ref bb1), .val (.int (10 : Int32)), .val (.int (8 : Int32)), .val (.ref u8)] [])) _
                    refine XS.aload X56.here hx rfl (hb hby d1_19) rfl rfl ?_
                    show Steps p.tables e below (T56.setTop (mkF m 21 #[.val (.int p0), .val (.ref bb1), .val (.int (10 : Int32)), .val (.int (8 : Int32)), .val (.ref u8)] [(.ref u8)])) _
                    refine st61 _ ?_
                    show Steps p.tables e below (T61.setTop (mkF m 24 #[.val (.int p0), .val (.ref bb1), .val (.int (10 : Int32)), .val (.int (8 : Int32)), .val (.ref u8)] [(.int (8 : Int32))])) _
                    refine XS.iloadN X61.here hx rfl (hb hby d1_24) rfl ?_
                    exact kt
                  by_cases hc25_63 : (8 : Int32) = p0
                  · skip
                    obtain ⟨fs, hr, hrun, hended, hW, hsame⟩ := X61.leave (v := some (.ref u8)) (fun h => by rw [Bd.returns] at h; cases h)
                    refine ⟨_, _, G62 _ ?_, hrun, hended, _, _, rfl, ?_, ⟨_, rfl⟩, hW, hsame.mono (by decide) (by decide)⟩
                    · skip
                      show Steps p.tables e below (T61.setTop (mkF m 25 #[.val (.int p0), .val (.ref bb1), .val (.int (10 : Int32)), .val (.int (8 : Int32)), .val (.ref u8)] [(.int p0), (.int (8 : Int32))])) _
                      refine XS.icmpNo X61.here hx rfl (hb hby d1_25) rfl (teq hc25_63).2 ?_
                      show Steps p.tables e below (T61.setTop (mkF m 28 #[.val (.int p0), .val (.ref bb1), .val (.int (10 : Int32)), .val (.int (8 : Int32)), .val (.ref u8)] [])) _
                      refine XS.aload X61.here hx rfl (hb hby d1_28) rfl rfl ?_
                      show Steps p.tables e below (T61.setTop (mkF m 30 #[.val (.int p0), .val (.ref bb1), .val (.int (10 : Int32)), .val (.int (8 : Int32)), .val (.ref u8)] [(.ref u8)])) _
                      exact retOut X61 hx Bd.returns rfl (Or.inr (Or.inr (Or.inr (Or.inr ⟨rfl, rfl, rfl⟩)))) (hb hby d1_30) hr
                    · show Q1 Z p0 va kv u0 u1 u2 u3 u4 u5 u6 u7 u8 u9 h0 n0 _ T61.heap _
                      rw [e61]
                      exact ⟨by rw [fof, if_neg hc25_23, if_neg hc25_28, if_neg hc25_33, if_neg hc25_38, if_neg hc25_43, if_neg hc25_48, if_neg hc25_53, if_neg hc25_58, if_pos hc25_63], N1, E1⟩
                  · skip
                    have G64 : ∀ t, Steps p.tables e below (T61.setTop (mkF m 11 #[.val (.int p0), .val (.ref bb1), .val (.int (10 : Int32)), .val (.int (9 : Int32)), .val (.ref u8)] [(.int (10 : Int32)), (.int (9 : Int32))])) t → Steps p.tables e below (s₁.setTop (entryFrame m #[(.int p0)] 5)) t := by
                      intro t kt
                      refine G62 _ ?_
                      show Steps p.tables e below (T61.setTop (mkF m 25 #[.val (.int p0), .val (.ref bb1), .val (.int (10 : Int32)), .val (.int (8 : Int32)), .val (.ref u8)] [(.int p0), (.int (8 : Int32))])) _
                      refine XS.icmpYes X61.here hx rfl (pc0 := 25) (pc' := 31) rfl (hb hby d1_25) rfl (feq hc25_63).2 (by decide) (by decide) ?_
                      show Steps p.tables e below (T61.setTop (mkF m 31 #[.val (.int p0), .val (.ref bb1), .val (.int (10 : Int32)), .val (.int (8 : Int32)), .val (.ref u8)] [])) _
                      refine XS.iinc X61.here hx rfl (hb hby d1_31) rfl (l' := #[.val (.int p0), .val (.ref bb1), .val (.int (10 : Int32)), .val (.int (9 : Int32)), .val (.ref u8)]) rfl ?_
                      show Steps p.tables e below (T61.setTop (mkF m 34 #[.val (.int p0), .val (.ref bb1), .val (.int (10 : Int32)), .val (.int (9 : Int32)), .val (.ref u8)] [])) _
                      refine XS.goto X61.here hx rfl (pc0 := 34) (pc' := 9) rfl (hb hby d1_34) (by decide) (by decide) ?_
                      show Steps p.tables e below (T61.setTop (mkF m 9 #[.val (.int p0), .val (.ref bb1), .val (.int (10 : Int32)), .val (.int (9 : Int32)), .val (.ref u8)] [])) _
                      refine XS.iloadN X61.here hx rfl (hb hby d1_9) rfl ?_
                      show Steps p.tables e below (T61.setTop (mkF m 10 #[.val (.int p0), .val (.ref bb1), .val (.int (10 : Int32)), .val (.int (9 : Int32)), .val (.ref u8)] [(.int (9 : Int32))])) _
                      refine XS.iloadN X61.here hx rfl (hb hby d1_10) rfl ?_
                      exact kt
                    obtain ⟨cl65, Ar65, q65, S65, M65, H65, G65⟩ := id V1
                    have hin65 : ¬ ((9 : Int32) < 0 ∨ cl65.slots.size ≤ ((9 : Int32)).toNatClampNeg) := inb_of S65 ⟨by decide, by decide⟩
                    have hat65 : cl65.slots[((9 : Int32)).toNatClampNeg]? = some (.ref u9) := H65.at hin65 rfl
                    obtain ⟨T66, X66, e66, st66⟩ := getF X61 hx hZ hown (host := "") (Or.inl (hw _ (List.mem_of_getElem? (i := 29) rfl))) Via.refl e61 f15 (g := (mkF m 21 #[.val (.int p0), .val (.ref bb1), .val (.int (10 : Int32)), .val (.int (9 : Int32)), .val (.ref u9)] [(.ref u9)])) rfl rfl (hb hby d1_21)
                    have G67 : ∀ t, Steps p.tables e below (T66.setTop (mkF m 25 #[.val (.int p0), .val (.ref bb1), .val (.int (10 : Int32)), .val (.int (9 : Int32)), .val (.ref u9)] [(.int p0), (.int (9 : Int32))])) t → Steps p.tables e below (s₁.setTop (entryFrame m #[(.int p0)] 5)) t := by
                      intro t kt
                      refine G64 _ ?_
                      show Steps p.tables e below (T61.setTop (mkF m 11 #[.val (.int p0), .val (.ref bb1), .val (.int (10 : Int32)), .val (.int (9 : Int32)), .val (.ref u8)] [(.int (10 : Int32)), (.int (9 : Int32))])) _
                      refine XS.icmpNo X61.here hx rfl (hb hby d1_11) rfl (tlt (by decide)).2.1 ?_
                      show Steps p.tables e below (T61.setTop (mkF m 14 #[.val (.int p0), .val (.ref bb1), .val (.int (10 : Int32)), .val (.int (9 : Int32)), .val (.ref u8)] [])) _
                      refine XS.aloadN X61.here hx rfl (hb hby d1_14) rfl rfl ?_
                      show Steps p.tables e below (T61.setTop (mkF m 15 #[.val (.int p0), .val (.ref bb1), .val (.int (10 : Int32)), .val (.int (9 : Int32)), .val (.ref u8)] [(.ref bb1)])) _
                      refine XS.iloadN X61.here hx rfl (hb hby d1_15) rfl ?_
                      show Steps p.tables e below (T61.setTop (mkF m 16 #[.val (.int p0), .val (.ref bb1), .val (.int (10 : Int32)), .val (.int (9 : Int32)), .val (.ref u8)] [(.int (9 : Int32)), (.ref bb1)])) _
                      refine X61.aaload hx (j := (9 : Int32)) (v := (.ref u9)) (by rw [e61]; exact Ar65.1) (State.isArrayOf_alike hZ.alike Ar65.2.1) rfl Ar65.2.2 hin65 hat65 (g := (mkF m 16 #[.val (.int p0), .val (.ref bb1), .val (.int (10 : Int32)), .val (.int (9 : Int32)), .val (.ref u8)] [(.int (9 : Int32)), (.ref bb1)])) rfl rfl (hb hby d1_16) _ ?_
                      show Steps p.tables e below (T61.setTop (mkF m 17 #[.val (.int p0), .val (.ref bb1), .val (.int (10 : Int32)), .val (.int (9 : Int32)), .val (.ref u8)] [(.ref u9)])) _
                      refine XS.astore X61.here hx rfl (hb hby d1_17) rfl rfl (l' := #[.val (.int p0), .val (.ref bb1), .val (.int (10 : Int32)), .val (.int (9 : Int32)), .val (.ref u9)]) rfl ?_
                      show Steps p.tables e below (T61.setTop (mkF m 19 #[.val (.int p0), .val (.ref bb1), .val (.int (10 : Int32)), .val (.int (9 : Int32)), .val (.ref u9)] [])) _
                      refine XS.aload X61.here hx rfl (hb hby d1_19) rfl rfl ?_
                      show Steps p.tables e below (T61.setTop (mkF m 21 #[.val (.int p0), .val (.ref bb1), .val (.int (10 : Int32)), .val (.int (9 : Int32)), .val (.ref u9)] [(.ref u9)])) _
                      refine st66 _ ?_
                      show Steps p.tables e below (T66.setTop (mkF m 24 #[.val (.int p0), .val (.ref bb1), .val (.int (10 : Int32)), .val (.int (9 : Int32)), .val (.ref u9)] [(.int (9 : Int32))])) _
                      refine XS.iloadN X66.here hx rfl (hb hby d1_24) rfl ?_
                      exact kt
                    by_cases hc25_68 : (9 : Int32) = p0
                    · skip
                      obtain ⟨fs, hr, hrun, hended, hW, hsame⟩ := X66.leave (v := some (.ref u9)) (fun h => by rw [Bd.returns] at h; cases h)
                      refine ⟨_, _, G67 _ ?_, hrun, hended, _, _, rfl, ?_, ⟨_, rfl⟩, hW, hsame.mono (by decide) (by decide)⟩
                      · skip
                        show Steps p.tables e below (T66.setTop (mkF m 25 #[.val (.int p0), .val (.ref bb1), .val (.int (10 : Int32)), .val (.int (9 : Int32)), .val (.ref u9)] [(.int p0), (.int (9 : Int32))])) _
                        refine XS.icmpNo X66.here hx rfl (hb hby d1_25) rfl (teq hc25_68).2 ?_
                        show Steps p.tables e below (T66.setTop (mkF m 28 #[.val (.int p0), .val (.ref bb1), .val (.int (10 : Int32)), .val (.int (9 : Int32)), .val (.ref u9)] [])) _
                        refine XS.aload X66.here hx rfl (hb hby d1_28) rfl rfl ?_
                        show Steps p.tables e below (T66.setTop (mkF m 30 #[.val (.int p0), .val (.ref bb1), .val (.int (10 : Int32)), .val (.int (9 : Int32)), .val (.ref u9)] [(.ref u9)])) _
                        exact retOut X66 hx Bd.returns rfl (Or.inr (Or.inr (Or.inr (Or.inr ⟨rfl, rfl, rfl⟩)))) (hb hby d1_30) hr
                      · show Q1 Z p0 va kv u0 u1 u2 u3 u4 u5 u6 u7 u8 u9 h0 n0 _ T66.heap _
                        rw [e66]
                        exact ⟨by rw [fof, if_neg hc25_23, if_neg hc25_28, if_neg hc25_33, if_neg hc25_38, if_neg hc25_43, if_neg hc25_48, if_neg hc25_53, if_neg hc25_58, if_neg hc25_63, if_pos hc25_68], N1, E1⟩
                    · skip
                      have G69 : ∀ t, Steps p.tables e below (T66.setTop (mkF m 11 #[.val (.int p0), .val (.ref bb1), .val (.int (10 : Int32)), .val (.int (10 : Int32)), .val (.ref u9)] [(.int (10 : Int32)), (.int (10 : Int32))])) t → Steps p.tables e below (s₁.setTop (entryFrame m #[(.int p0)] 5)) t := by
                        intro t kt
                        refine G67 _ ?_
                        show Steps p.tables e below (T66.setTop (mkF m 25 #[.val (.int p0), .val (.ref bb1), .val (.int (10 : Int32)), .val (.int (9 : Int32)), .val (.ref u9)] [(.int p0), (.int (9 : Int32))])) _
                        refine XS.icmpYes X66.here hx rfl (pc0 := 25) (pc' := 31) rfl (hb hby d1_25) rfl (feq hc25_68).2 (by decide) (by decide) ?_
                        show Steps p.tables e below (T66.setTop (mkF m 31 #[.val (.int p0), .val (.ref bb1), .val (.int (10 : Int32)), .val (.int (9 : Int32)), .val (.ref u9)] [])) _
                        refine XS.iinc X66.here hx rfl (hb hby d1_31) rfl (l' := #[.val (.int p0), .val (.ref bb1), .val (.int (10 : Int32)), .val (.int (10 : Int32)), .val (.ref u9)]) rfl ?_
                        show Steps p.tables e below (T66.setTop (mkF m 34 #[.val (.int p0), .val (.ref bb1), .val (.int (10 : Int32)), .val (.int (10 : Int32)), .val (.ref u9)] [])) _
                        refine XS.goto X66.here hx rfl (pc0 := 34) (pc' := 9) rfl (hb hby d1_34) (by decide) (by decide) ?_
                        show Steps p.tables e below (T66.setTop (mkF m 9 #[.val (.int p0), .val (.ref bb1), .val (.int (10 : Int32)), .val (.int (10 : Int32)), .val (.ref u9)] [])) _
                        refine XS.iloadN X66.here hx rfl (hb hby d1_9) rfl ?_
                        show Steps p.tables e below (T66.setTop (mkF m 10 #[.val (.int p0), .val (.ref bb1), .val (.int (10 : Int32)), .val (.int (10 : Int32)), .val (.ref u9)] [(.int (10 : Int32))])) _
                        refine XS.iloadN X66.here hx rfl (hb hby d1_10) rfl ?_
                        exact kt
                      obtain ⟨T70, X70, e70, st70⟩ := getS2 X66 hx hZ hown (host := "") (Or.inl (hw _ (List.mem_of_getElem? (i := 37) rfl))) Via.refl e66 f5 (g := (mkF m 37 #[.val (.int p0), .val (.ref bb1), .val (.int (10 : Int32)), .val (.int (10 : Int32)), .val (.ref u9)] [])) rfl (hb hby d1_37)
                      obtain ⟨fs, hr, hrun, hended, hW, hsame⟩ := X70.leave (v := some (.ref u0)) (fun h => by rw [Bd.returns] at h; cases h)
                      refine ⟨_, _, G69 _ ?_, hrun, hended, _, _, rfl, ?_, ⟨_, rfl⟩, hW, hsame.mono (by decide) (by decide)⟩
                      · skip
                        show Steps p.tables e below (T66.setTop (mkF m 11 #[.val (.int p0), .val (.ref bb1), .val (.int (10 : Int32)), .val (.int (10 : Int32)), .val (.ref u9)] [(.int (10 : Int32)), (.int (10 : Int32))])) _
                        refine XS.icmpYes X66.here hx rfl (pc0 := 11) (pc' := 37) rfl (hb hby d1_11) rfl (flt (by decide)).2.1 (by decide) (by decide) ?_
                        show Steps p.tables e below (T66.setTop (mkF m 37 #[.val (.int p0), .val (.ref bb1), .val (.int (10 : Int32)), .val (.int (10 : Int32)), .val (.ref u9)] [])) _
                        refine st70 _ ?_
                        show Steps p.tables e below (T70.setTop (mkF m 40 #[.val (.int p0), .val (.ref bb1), .val (.int (10 : Int32)), .val (.int (10 : Int32)), .val (.ref u9)] [(.ref u0)])) _
                        exact retOut X70 hx Bd.returns rfl (Or.inr (Or.inr (Or.inr (Or.inr ⟨rfl, rfl, rfl⟩)))) (hb hby d1_40) hr
                      · show Q1 Z p0 va kv u0 u1 u2 u3 u4 u5 u6 u7 u8 u9 h0 n0 _ T70.heap _
                        rw [e70]
                        exact ⟨by rw [fof, if_neg hc25_23, if_neg hc25_28, if_neg hc25_33, if_neg hc25_38, if_neg hc25_43, if_neg hc25_48, if_neg hc25_53, if_neg hc25_58, if_neg hc25_63, if_neg hc25_68], N1, E1⟩
theorem d3_0 : decode method_3_code 0 = .ok (.iload_n 0, 1) := by decide +kernel
theorem d3_1 : decode method_3_code 1 = .ok (.iconst 1, 1) := by decide +kernel
theorem d3_2 : decode method_3_code 2 = .ok (.if_icmp .ne 7, 3) := by decide +kernel
theorem d3_5 : decode method_3_code 5 = .ok (.getstatic 18, 3) := by decide +kernel
theorem d3_8 : decode method_3_code 8 = .ok (.areturn, 1) := by decide +kernel
theorem d3_9 : decode method_3_code 9 = .ok (.iload_n 0, 1) := by decide +kernel
theorem d3_10 : decode method_3_code 10 = .ok (.iconst 2, 1) := by decide +kernel
theorem d3_11 : decode method_3_code 11 = .ok (.if_icmp .ne 7, 3) := by decide +kernel
theorem d3_14 : decode method_3_code 14 = .ok (.getstatic 22, 3) := by decide +kernel
theorem d3_17 : decode method_3_code 17 = .ok (.areturn, 1) := by decide +kernel
theorem d3_18 : decode method_3_code 18 = .ok (.iload_n 0, 1) := by decide +kernel
theorem d3_19 : decode method_3_code 19 = .ok (.iconst 3, 1) := by decide +kernel
theorem d3_20 : decode method_3_code 20 = .ok (.if_icmp .ne 7, 3) := by decide +kernel
theorem d3_23 : decode method_3_code 23 = .ok (.getstatic 25, 3) := by decide +kernel
theorem d3_26 : decode method_3_code 26 = .ok (.areturn, 1) := by decide +kernel
theorem d3_27 : decode method_3_code 27 = .ok (.iload_n 0, 1) := by decide +kernel
theorem d3_28 : decode method_3_code 28 = .ok (.iconst 4, 1) := by decide +kernel
theorem d3_29 : decode method_3_code 29 = .ok (.if_icmp .ne 7, 3) := by decide +kernel
theorem d3_32 : decode method_3_code 32 = .ok (.getstatic 28, 3) := by decide +kernel
theorem d3_35 : decode method_3_code 35 = .ok (.areturn, 1) := by decide +kernel
theorem d3_36 : decode method_3_code 36 = .ok (.iload_n 0, 1) := by decide +kernel
theorem d3_37 : decode method_3_code 37 = .ok (.iconst 5, 1) := by decide +kernel
theorem d3_38 : decode method_3_code 38 = .ok (.if_icmp .ne 7, 3) := by decide +kernel
theorem d3_41 : decode method_3_code 41 = .ok (.getstatic 31, 3) := by decide +kernel
theorem d3_44 : decode method_3_code 44 = .ok (.areturn, 1) := by decide +kernel
theorem d3_45 : decode method_3_code 45 = .ok (.iload_n 0, 1) := by decide +kernel
theorem d3_46 : decode method_3_code 46 = .ok (.bipush 6, 2) := by decide +kernel
theorem d3_48 : decode method_3_code 48 = .ok (.if_icmp .ne 7, 3) := by decide +kernel
theorem d3_51 : decode method_3_code 51 = .ok (.getstatic 34, 3) := by decide +kernel
theorem d3_54 : decode method_3_code 54 = .ok (.areturn, 1) := by decide +kernel
theorem d3_55 : decode method_3_code 55 = .ok (.iload_n 0, 1) := by decide +kernel
theorem d3_56 : decode method_3_code 56 = .ok (.bipush 7, 2) := by decide +kernel
theorem d3_58 : decode method_3_code 58 = .ok (.if_icmp .ne 7, 3) := by decide +kernel
theorem d3_61 : decode method_3_code 61 = .ok (.getstatic 37, 3) := by decide +kernel
theorem d3_64 : decode method_3_code 64 = .ok (.areturn, 1) := by decide +kernel
theorem d3_65 : decode method_3_code 65 = .ok (.iload_n 0, 1) := by decide +kernel
theorem d3_66 : decode method_3_code 66 = .ok (.bipush 8, 2) := by decide +kernel
theorem d3_68 : decode method_3_code 68 = .ok (.if_icmp .ne 7, 3) := by decide +kernel
theorem d3_71 : decode method_3_code 71 = .ok (.getstatic 40, 3) := by decide +kernel
theorem d3_74 : decode method_3_code 74 = .ok (.areturn, 1) := by decide +kernel
theorem d3_75 : decode method_3_code 75 = .ok (.iload_n 0, 1) := by decide +kernel
theorem d3_76 : decode method_3_code 76 = .ok (.bipush 9, 2) := by decide +kernel
theorem d3_78 : decode method_3_code 78 = .ok (.if_icmp .ne 7, 3) := by decide +kernel
theorem d3_81 : decode method_3_code 81 = .ok (.getstatic 43, 3) := by decide +kernel
theorem d3_84 : decode method_3_code 84 = .ok (.areturn, 1) := by decide +kernel
theorem d3_85 : decode method_3_code 85 = .ok (.getstatic 46, 3) := by decide +kernel
theorem d3_88 : decode method_3_code 88 = .ok (.areturn, 1) := by decide +kernel
def fex (p0 : Int32) (u0 u1 u2 u3 u4 u5 u6 u7 u8 u9 : Addr) : Addr := if p0 = (1 : Int32) then (u1) else (if p0 = (2 : Int32) then (u2) else (if p0 = (3 : Int32) then (u3) else (if p0 = (4 : Int32) then (u4) else (if p0 = (5 : Int32) then (u5) else (if p0 = (6 : Int32) then (u6) else (if p0 = (7 : Int32) then (u7) else (if p0 = (8 : Int32) then (u8) else (if p0 = (9 : Int32) then (u9) else (u0)))))))))
def Q3 (Z : State) (p0 : Int32) (u0 u1 u2 u3 u4 u5 u6 u7 u8 u9 : Addr) (h0 : Heap) (n0 : Nat) (v : Option Value) (h : Heap) (L : List Loc) : Prop := v = some (.ref (fex p0 u0 u1 u2 u3 u4 u5 u6 u7 u8 u9)) ∧ Fr n0 L ∧ h = h0
theorem ef_rm3 (m : MethodId) (x0 : Int32) : entryFrame m #[(.int x0)] 1 = mkF m 0 #[.val (.int x0)] [] := by first | (simp [entryFrame, mkF, argsToLocals, Value.category]; done) | rfl
theorem pnc_com_example_moffett_moffett_catalogue_ConfigTypeOfPinLaw : plainName "com/example/moffett/moffett/catalogue/ConfigTypeOfPinLaw" = true := by first | (simp [plainName, overriddenIn]; done) | decide +kernel
set_option maxRecDepth 65536 in
set_option maxHeartbeats 40000000 in
theorem rm3 (l : Launch) (Z : State) (a0 : Array Value) (hw : ∀ d ∈ tables_1, d.before a0 Z = true) (ws : List Jvm.Cond) (p0 : Int32) (u0 u1 u2 u3 u4 u5 u6 u7 u8 u9 : Addr) (h0 : Heap) (n0 : Nat) (Z0 : n0 ≤ h0.size) (S_UNKNOWN : Sta Z h0 "com/example/moffett/moffett/catalogue/ConfigType" "UNKNOWN" "Lcom/example/moffett/moffett/catalogue/ConfigType;" (.ref u0)) (S_BOOLEAN : Sta Z h0 "com/example/moffett/moffett/catalogue/ConfigType" "BOOLEAN" "Lcom/example/moffett/moffett/catalogue/ConfigType;" (.ref u1)) (S_STRING : Sta Z h0 "com/example/moffett/moffett/catalogue/ConfigType" "STRING" "Lcom/example/moffett/moffett/catalogue/ConfigType;" (.ref u2)) (S_INT : Sta Z h0 "com/example/moffett/moffett/catalogue/ConfigType" "INT" "Lcom/example/moffett/moffett/catalogue/ConfigType;" (.ref u3)) (S_SHORT : Sta Z h0 "com/example/moffett/moffett/catalogue/ConfigType" "SHORT" "Lcom/example/moffett/moffett/catalogue/ConfigType;" (.ref u4)) (S_LONG : Sta Z h0 "com/example/moffett/moffett/catalogue/ConfigType" "LONG" "Lcom/example/moffett/moffett/catalogue/ConfigType;" (.ref u5)) (S_DOUBLE : Sta Z h0 "com/example/moffett/moffett/catalogue/ConfigType" "DOUBLE" "Lcom/example/moffett/moffett/catalogue/ConfigType;" (.ref u6)) (S_LIST : Sta Z h0 "com/example/moffett/moffett/catalogue/ConfigType" "LIST" "Lcom/example/moffett/moffett/catalogue/ConfigType;" (.ref u7)) (S_CLASS : Sta Z h0 "com/example/moffett/moffett/catalogue/ConfigType" "CLASS" "Lcom/example/moffett/moffett/catalogue/ConfigType;" (.ref u8)) (S_PASSWORD : Sta Z h0 "com/example/moffett/moffett/catalogue/ConfigType" "PASSWORD" "Lcom/example/moffett/moffett/catalogue/ConfigType;" (.ref u9)) :
    MetFree l (⟨"com/example/moffett/moffett/catalogue/ConfigTypeOfPinLaw", "expected", "(B)Lcom/example/moffett/moffett/catalogue/ConfigType;"⟩ : MethodName) (head1 (Jvm.Cond.code (⟨"com/example/moffett/moffett/catalogue/ConfigTypeOfPinLaw", "expected", "(B)Lcom/example/moffett/moffett/catalogue/ConfigType;"⟩ : MethodName) method_3_code 1 (some (.object "com/example/moffett/moffett/catalogue/ConfigType")) :: ws) ({ frames := 0, cells := 0, slots := 0, locals := 0 } : Room)) (fun a U => a = #[(.int p0)] ∧ Z.Warmed39 U.vm ∧ U.heap = h0) (fun _ _ _ _ _ => True) (fun _ U o U' => ∃ v L, o = .returned v ∧ Q3 Z p0 u0 u1 u2 u3 u4 u5 u6 u7 u8 u9 h0 n0 v U'.heap L ∧ FrameEnd U o U' L ({ frames := 0, cells := 0, slots := 0, locals := 0 } : Room).cells ({ frames := 0, cells := 0, slots := 0, locals := 0 } : Room).slots) := by
  refine MetFree.of_bodySF (plainFor_of_name pnc_com_example_moffett_moffett_catalogue_ConfigTypeOfPinLaw) hisR ?_
  intro p e s m args below meth c s₁ Bd hml0 hP hK
  obtain ⟨rfl, hZ, hh⟩ := hP
  have hx := Bd.exec
  have hby := Bd.bytes
  have hml : c.maxLocals = 1 := hml0
  have hown : s.vm.findClass "com/example/moffett/moffett/catalogue/ConfigTypeOfPinLaw" = some m.cls := findClass_of_methodNamed Bd.named
  have hnm := (name_of_methodNamed Bd.named Bd.method).1
  have X0 : Stand p l e ({ frames := 0, cells := 0, slots := 0, locals := 0 } : Room) s m #[(.int p0)] below meth c s₁ [] 0 0 := Stand.of_body Bd
  have e0 : s₁.heap = h0 := by rw [← hh, Bd.state]; rfl
  have N0 := Fr.nil n0
  have kp0 : Keep h0 h0 [] := Keep.refl _ _
  have G0 : ∀ t, Steps p.tables e below (s₁.setTop (mkF m 0 #[.val (.int p0)] [])) t → Steps p.tables e below (s₁.setTop (entryFrame m #[(.int p0)] 1)) t := fun t k => castTop (ef_rm3 m p0) k
  have G1 : ∀ t, Steps p.tables e below (s₁.setTop (mkF m 2 #[.val (.int p0)] [(.int (1 : Int32)), (.int p0)])) t → Steps p.tables e below (s₁.setTop (entryFrame m #[(.int p0)] 1)) t := by
    intro t kt
    refine G0 _ ?_
    show Steps p.tables e below (s₁.setTop (mkF m 0 #[.val (.int p0)] [])) _
    refine XS.iloadN X0.here hx rfl (hb hby d3_0) rfl ?_
    show Steps p.tables e below (s₁.setTop (mkF m 1 #[.val (.int p0)] [(.int p0)])) _
    refine XS.iconst X0.here hx rfl (hb hby d3_1) ?_
    exact kt
  by_cases hc2_2 : p0 = (1 : Int32)
  · skip
    obtain ⟨T3, X3, e3, st3⟩ := getS2 X0 hx hZ hown (host := "") (Or.inl (hw _ (List.mem_of_getElem? (i := 41) rfl))) Via.refl e0 S_BOOLEAN (g := (mkF m 5 #[.val (.int p0)] [])) rfl (hb hby d3_5)
    obtain ⟨fs, hr, hrun, hended, hW, hsame⟩ := X3.leave (v := some (.ref u1)) (fun h => by rw [Bd.returns] at h; cases h)
    refine ⟨_, _, G1 _ ?_, hrun, hended, _, _, rfl, ?_, ⟨_, rfl⟩, hW, hsame.mono (by decide) (by decide)⟩
    · skip
      show Steps p.tables e below (s₁.setTop (mkF m 2 #[.val (.int p0)] [(.int (1 : Int32)), (.int p0)])) _
      refine XS.icmpNo X0.here hx rfl (hb hby d3_2) rfl (teq hc2_2).2 ?_
      show Steps p.tables e below (s₁.setTop (mkF m 5 #[.val (.int p0)] [])) _
      refine st3 _ ?_
      show Steps p.tables e below (T3.setTop (mkF m 8 #[.val (.int p0)] [(.ref u1)])) _
      exact retOut X3 hx Bd.returns rfl (Or.inr (Or.inr (Or.inr (Or.inr ⟨rfl, rfl, rfl⟩)))) (hb hby d3_8) hr
    · show Q3 Z p0 u0 u1 u2 u3 u4 u5 u6 u7 u8 u9 h0 n0 _ T3.heap _
      rw [e3]
      exact ⟨by rw [fex, if_pos hc2_2], N0, rfl⟩
  · skip
    have G4 : ∀ t, Steps p.tables e below (s₁.setTop (mkF m 11 #[.val (.int p0)] [(.int (2 : Int32)), (.int p0)])) t → Steps p.tables e below (s₁.setTop (entryFrame m #[(.int p0)] 1)) t := by
      intro t kt
      refine G1 _ ?_
      show Steps p.tables e below (s₁.setTop (mkF m 2 #[.val (.int p0)] [(.int (1 : Int32)), (.int p0)])) _
      refine XS.icmpYes X0.here hx rfl (pc0 := 2) (pc' := 9) rfl (hb hby d3_2) rfl (feq hc2_2).2 (by decide) (by decide) ?_
      show Steps p.tables e below (s₁.setTop (mkF m 9 #[.val (.int p0)] [])) _
      refine XS.iloadN X0.here hx rfl (hb hby d3_9) rfl ?_
      show Steps p.tables e below (s₁.setTop (mkF m 10 #[.val (.int p0)] [(.int p0)])) _
      refine XS.iconst X0.here hx rfl (hb hby d3_10) ?_
      exact kt
    by_cases hc11_5 : p0 = (2 : Int32)
    · skip
      obtain ⟨T6, X6, e6, st6⟩ := getS2 X0 hx hZ hown (host := "") (Or.inl (hw _ (List.mem_of_getElem? (i := 39) rfl))) Via.refl e0 S_STRING (g := (mkF m 14 #[.val (.int p0)] [])) rfl (hb hby d3_14)
      obtain ⟨fs, hr, hrun, hended, hW, hsame⟩ := X6.leave (v := some (.ref u2)) (fun h => by rw [Bd.returns] at h; cases h)
      refine ⟨_, _, G4 _ ?_, hrun, hended, _, _, rfl, ?_, ⟨_, rfl⟩, hW, hsame.mono (by decide) (by decide)⟩
      · skip
        show Steps p.tables e below (s₁.setTop (mkF m 11 #[.val (.int p0)] [(.int (2 : Int32)), (.int p0)])) _
        refine XS.icmpNo X0.here hx rfl (hb hby d3_11) rfl (teq hc11_5).2 ?_
        show Steps p.tables e below (s₁.setTop (mkF m 14 #[.val (.int p0)] [])) _
        refine st6 _ ?_
        show Steps p.tables e below (T6.setTop (mkF m 17 #[.val (.int p0)] [(.ref u2)])) _
        exact retOut X6 hx Bd.returns rfl (Or.inr (Or.inr (Or.inr (Or.inr ⟨rfl, rfl, rfl⟩)))) (hb hby d3_17) hr
      · show Q3 Z p0 u0 u1 u2 u3 u4 u5 u6 u7 u8 u9 h0 n0 _ T6.heap _
        rw [e6]
        exact ⟨by rw [fex, if_neg hc2_2, if_pos hc11_5], N0, rfl⟩
    · skip
      have G7 : ∀ t, Steps p.tables e below (s₁.setTop (mkF m 20 #[.val (.int p0)] [(.int (3 : Int32)), (.int p0)])) t → Steps p.tables e below (s₁.setTop (entryFrame m #[(.int p0)] 1)) t := by
        intro t kt
        refine G4 _ ?_
        show Steps p.tables e below (s₁.setTop (mkF m 11 #[.val (.int p0)] [(.int (2 : Int32)), (.int p0)])) _
        refine XS.icmpYes X0.here hx rfl (pc0 := 11) (pc' := 18) rfl (hb hby d3_11) rfl (feq hc11_5).2 (by decide) (by decide) ?_
        show Steps p.tables e below (s₁.setTop (mkF m 18 #[.val (.int p0)] [])) _
        refine XS.iloadN X0.here hx rfl (hb hby d3_18) rfl ?_
        show Steps p.tables e below (s₁.setTop (mkF m 19 #[.val (.int p0)] [(.int p0)])) _
        refine XS.iconst X0.here hx rfl (hb hby d3_19) ?_
        exact kt
      by_cases hc20_8 : p0 = (3 : Int32)
      · skip
        obtain ⟨T9, X9, e9, st9⟩ := getS2 X0 hx hZ hown (host := "") (Or.inl (hw _ (List.mem_of_getElem? (i := 36) rfl))) Via.refl e0 S_INT (g := (mkF m 23 #[.val (.int p0)] [])) rfl (hb hby d3_23)
        obtain ⟨fs, hr, hrun, hended, hW, hsame⟩ := X9.leave (v := some (.ref u3)) (fun h => by rw [Bd.returns] at h; cases h)
        refine ⟨_, _, G7 _ ?_, hrun, hended, _, _, rfl, ?_, ⟨_, rfl⟩, hW, hsame.mono (by decide) (by decide)⟩
        · skip
          show Steps p.tables e below (s₁.setTop (mkF m 20 #[.val (.int p0)] [(.int (3 : Int32)), (.int p0)])) _
          refine XS.icmpNo X0.here hx rfl (hb hby d3_20) rfl (teq hc20_8).2 ?_
          show Steps p.tables e below (s₁.setTop (mkF m 23 #[.val (.int p0)] [])) _
          refine st9 _ ?_
          show Steps p.tables e below (T9.setTop (mkF m 26 #[.val (.int p0)] [(.ref u3)])) _
          exact retOut X9 hx Bd.returns rfl (Or.inr (Or.inr (Or.inr (Or.inr ⟨rfl, rfl, rfl⟩)))) (hb hby d3_26) hr
        · show Q3 Z p0 u0 u1 u2 u3 u4 u5 u6 u7 u8 u9 h0 n0 _ T9.heap _
          rw [e9]
          exact ⟨by rw [fex, if_neg hc2_2, if_neg hc11_5, if_pos hc20_8], N0, rfl⟩
      · skip
        have G10 : ∀ t, Steps p.tables e below (s₁.setTop (mkF m 29 #[.val (.int p0)] [(.int (4 : Int32)), (.int p0)])) t → Steps p.tables e below (s₁.setTop (entryFrame m #[(.int p0)] 1)) t := by
          intro t kt
          refine G7 _ ?_
          show Steps p.tables e below (s₁.setTop (mkF m 20 #[.val (.int p0)] [(.int (3 : Int32)), (.int p0)])) _
          refine XS.icmpYes X0.here hx rfl (pc0 := 20) (pc' := 27) rfl (hb hby d3_20) rfl (feq hc20_8).2 (by decide) (by decide) ?_
          show Steps p.tables e below (s₁.setTop (mkF m 27 #[.val (.int p0)] [])) _
          refine XS.iloadN X0.here hx rfl (hb hby d3_27) rfl ?_
          show Steps p.tables e below (s₁.setTop (mkF m 28 #[.val (.int p0)] [(.int p0)])) _
          refine XS.iconst X0.here hx rfl (hb hby d3_28) ?_
          exact kt
        by_cases hc29_11 : p0 = (4 : Int32)
        · skip
          obtain ⟨T12, X12, e12, st12⟩ := getS2 X0 hx hZ hown (host := "") (Or.inl (hw _ (List.mem_of_getElem? (i := 45) rfl))) Via.refl e0 S_SHORT (g := (mkF m 32 #[.val (.int p0)] [])) rfl (hb hby d3_32)
          obtain ⟨fs, hr, hrun, hended, hW, hsame⟩ := X12.leave (v := some (.ref u4)) (fun h => by rw [Bd.returns] at h; cases h)
          refine ⟨_, _, G10 _ ?_, hrun, hended, _, _, rfl, ?_, ⟨_, rfl⟩, hW, hsame.mono (by decide) (by decide)⟩
          · skip
            show Steps p.tables e below (s₁.setTop (mkF m 29 #[.val (.int p0)] [(.int (4 : Int32)), (.int p0)])) _
            refine XS.icmpNo X0.here hx rfl (hb hby d3_29) rfl (teq hc29_11).2 ?_
            show Steps p.tables e below (s₁.setTop (mkF m 32 #[.val (.int p0)] [])) _
            refine st12 _ ?_
            show Steps p.tables e below (T12.setTop (mkF m 35 #[.val (.int p0)] [(.ref u4)])) _
            exact retOut X12 hx Bd.returns rfl (Or.inr (Or.inr (Or.inr (Or.inr ⟨rfl, rfl, rfl⟩)))) (hb hby d3_35) hr
          · show Q3 Z p0 u0 u1 u2 u3 u4 u5 u6 u7 u8 u9 h0 n0 _ T12.heap _
            rw [e12]
            exact ⟨by rw [fex, if_neg hc2_2, if_neg hc11_5, if_neg hc20_8, if_pos hc29_11], N0, rfl⟩
        · skip
          have G13 : ∀ t, Steps p.tables e below (s₁.setTop (mkF m 38 #[.val (.int p0)] [(.int (5 : Int32)), (.int p0)])) t → Steps p.tables e below (s₁.setTop (entryFrame m #[(.int p0)] 1)) t := by
            intro t kt
            refine G10 _ ?_
            show Steps p.tables e below (s₁.setTop (mkF m 29 #[.val (.int p0)] [(.int (4 : Int32)), (.int p0)])) _
            refine XS.icmpYes X0.here hx rfl (pc0 := 29) (pc' := 36) rfl (hb hby d3_29) rfl (feq hc29_11).2 (by decide) (by decide) ?_
            show Steps p.tables e below (s₁.setTop (mkF m 36 #[.val (.int p0)] [])) _
            refine XS.iloadN X0.here hx rfl (hb hby d3_36) rfl ?_
            show Steps p.tables e below (s₁.setTop (mkF m 37 #[.val (.int p0)] [(.int p0)])) _
            refine XS.iconst X0.here hx rfl (hb hby d3_37) ?_
            exact kt
          by_cases hc38_14 : p0 = (5 : Int32)
          · skip
            obtain ⟨T15, X15, e15, st15⟩ := getS2 X0 hx hZ hown (host := "") (Or.inl (hw _ (List.mem_of_getElem? (i := 44) rfl))) Via.refl e0 S_LONG (g := (mkF m 41 #[.val (.int p0)] [])) rfl (hb hby d3_41)
            obtain ⟨fs, hr, hrun, hended, hW, hsame⟩ := X15.leave (v := some (.ref u5)) (fun h => by rw [Bd.returns] at h; cases h)
            refine ⟨_, _, G13 _ ?_, hrun, hended, _, _, rfl, ?_, ⟨_, rfl⟩, hW, hsame.mono (by decide) (by decide)⟩
            · skip
              show Steps p.tables e below (s₁.setTop (mkF m 38 #[.val (.int p0)] [(.int (5 : Int32)), (.int p0)])) _
              refine XS.icmpNo X0.here hx rfl (hb hby d3_38) rfl (teq hc38_14).2 ?_
              show Steps p.tables e below (s₁.setTop (mkF m 41 #[.val (.int p0)] [])) _
              refine st15 _ ?_
              show Steps p.tables e below (T15.setTop (mkF m 44 #[.val (.int p0)] [(.ref u5)])) _
              exact retOut X15 hx Bd.returns rfl (Or.inr (Or.inr (Or.inr (Or.inr ⟨rfl, rfl, rfl⟩)))) (hb hby d3_44) hr
            · show Q3 Z p0 u0 u1 u2 u3 u4 u5 u6 u7 u8 u9 h0 n0 _ T15.heap _
              rw [e15]
              exact ⟨by rw [fex, if_neg hc2_2, if_neg hc11_5, if_neg hc20_8, if_neg hc29_11, if_pos hc38_14], N0, rfl⟩
          · skip
            have G16 : ∀ t, Steps p.tables e below (s₁.setTop (mkF m 48 #[.val (.int p0)] [(.int (6 : Int32)), (.int p0)])) t → Steps p.tables e below (s₁.setTop (entryFrame m #[(.int p0)] 1)) t := by
              intro t kt
              refine G13 _ ?_
              show Steps p.tables e below (s₁.setTop (mkF m 38 #[.val (.int p0)] [(.int (5 : Int32)), (.int p0)])) _
              refine XS.icmpYes X0.here hx rfl (pc0 := 38) (pc' := 45) rfl (hb hby d3_38) rfl (feq hc38_14).2 (by decide) (by decide) ?_
              show Steps p.tables e below (s₁.setTop (mkF m 45 #[.val (.int p0)] [])) _
              refine XS.iloadN X0.here hx rfl (hb hby d3_45) rfl ?_
              show Steps p.tables e below (s₁.setTop (mkF m 46 #[.val (.int p0)] [(.int p0)])) _
              refine XS.bipush X0.here hx rfl (hb hby d3_46) ?_
              exact kt
            by_cases hc48_17 : p0 = (6 : Int32)
            · skip
              obtain ⟨T18, X18, e18, st18⟩ := getS2 X0 hx hZ hown (host := "") (Or.inl (hw _ (List.mem_of_getElem? (i := 42) rfl))) Via.refl e0 S_DOUBLE (g := (mkF m 51 #[.val (.int p0)] [])) rfl (hb hby d3_51)
              obtain ⟨fs, hr, hrun, hended, hW, hsame⟩ := X18.leave (v := some (.ref u6)) (fun h => by rw [Bd.returns] at h; cases h)
              refine ⟨_, _, G16 _ ?_, hrun, hended, _, _, rfl, ?_, ⟨_, rfl⟩, hW, hsame.mono (by decide) (by decide)⟩
              · skip
                show Steps p.tables e below (s₁.setTop (mkF m 48 #[.val (.int p0)] [(.int (6 : Int32)), (.int p0)])) _
                refine XS.icmpNo X0.here hx rfl (hb hby d3_48) rfl (teq hc48_17).2 ?_
                show Steps p.tables e below (s₁.setTop (mkF m 51 #[.val (.int p0)] [])) _
                refine st18 _ ?_
                show Steps p.tables e below (T18.setTop (mkF m 54 #[.val (.int p0)] [(.ref u6)])) _
                exact retOut X18 hx Bd.returns rfl (Or.inr (Or.inr (Or.inr (Or.inr ⟨rfl, rfl, rfl⟩)))) (hb hby d3_54) hr
              · show Q3 Z p0 u0 u1 u2 u3 u4 u5 u6 u7 u8 u9 h0 n0 _ T18.heap _
                rw [e18]
                exact ⟨by rw [fex, if_neg hc2_2, if_neg hc11_5, if_neg hc20_8, if_neg hc29_11, if_neg hc38_14, if_pos hc48_17], N0, rfl⟩
            · skip
              have G19 : ∀ t, Steps p.tables e below (s₁.setTop (mkF m 58 #[.val (.int p0)] [(.int (7 : Int32)), (.int p0)])) t → Steps p.tables e below (s₁.setTop (entryFrame m #[(.int p0)] 1)) t := by
                intro t kt
                refine G16 _ ?_
                show Steps p.tables e below (s₁.setTop (mkF m 48 #[.val (.int p0)] [(.int (6 : Int32)), (.int p0)])) _
                refine XS.icmpYes X0.here hx rfl (pc0 := 48) (pc' := 55) rfl (hb hby d3_48) rfl (feq hc48_17).2 (by decide) (by decide) ?_
                show Steps p.tables e below (s₁.setTop (mkF m 55 #[.val (.int p0)] [])) _
                refine XS.iloadN X0.here hx rfl (hb hby d3_55) rfl ?_
                show Steps p.tables e below (s₁.setTop (mkF m 56 #[.val (.int p0)] [(.int p0)])) _
                refine XS.bipush X0.here hx rfl (hb hby d3_56) ?_
                exact kt
              by_cases hc58_20 : p0 = (7 : Int32)
              · skip
                obtain ⟨T21, X21, e21, st21⟩ := getS2 X0 hx hZ hown (host := "") (Or.inl (hw _ (List.mem_of_getElem? (i := 38) rfl))) Via.refl e0 S_LIST (g := (mkF m 61 #[.val (.int p0)] [])) rfl (hb hby d3_61)
                obtain ⟨fs, hr, hrun, hended, hW, hsame⟩ := X21.leave (v := some (.ref u7)) (fun h => by rw [Bd.returns] at h; cases h)
                refine ⟨_, _, G19 _ ?_, hrun, hended, _, _, rfl, ?_, ⟨_, rfl⟩, hW, hsame.mono (by decide) (by decide)⟩
                · skip
                  show Steps p.tables e below (s₁.setTop (mkF m 58 #[.val (.int p0)] [(.int (7 : Int32)), (.int p0)])) _
                  refine XS.icmpNo X0.here hx rfl (hb hby d3_58) rfl (teq hc58_20).2 ?_
                  show Steps p.tables e below (s₁.setTop (mkF m 61 #[.val (.int p0)] [])) _
                  refine st21 _ ?_
                  show Steps p.tables e below (T21.setTop (mkF m 64 #[.val (.int p0)] [(.ref u7)])) _
                  exact retOut X21 hx Bd.returns rfl (Or.inr (Or.inr (Or.inr (Or.inr ⟨rfl, rfl, rfl⟩)))) (hb hby d3_64) hr
                · show Q3 Z p0 u0 u1 u2 u3 u4 u5 u6 u7 u8 u9 h0 n0 _ T21.heap _
                  rw [e21]
                  exact ⟨by rw [fex, if_neg hc2_2, if_neg hc11_5, if_neg hc20_8, if_neg hc29_11, if_neg hc38_14, if_neg hc48_17, if_pos hc58_20], N0, rfl⟩
              · skip
                have G22 : ∀ t, Steps p.tables e below (s₁.setTop (mkF m 68 #[.val (.int p0)] [(.int (8 : Int32)), (.int p0)])) t → Steps p.tables e below (s₁.setTop (entryFrame m #[(.int p0)] 1)) t := by
                  intro t kt
                  refine G19 _ ?_
                  show Steps p.tables e below (s₁.setTop (mkF m 58 #[.val (.int p0)] [(.int (7 : Int32)), (.int p0)])) _
                  refine XS.icmpYes X0.here hx rfl (pc0 := 58) (pc' := 65) rfl (hb hby d3_58) rfl (feq hc58_20).2 (by decide) (by decide) ?_
                  show Steps p.tables e below (s₁.setTop (mkF m 65 #[.val (.int p0)] [])) _
                  refine XS.iloadN X0.here hx rfl (hb hby d3_65) rfl ?_
                  show Steps p.tables e below (s₁.setTop (mkF m 66 #[.val (.int p0)] [(.int p0)])) _
                  refine XS.bipush X0.here hx rfl (hb hby d3_66) ?_
                  exact kt
                by_cases hc68_23 : p0 = (8 : Int32)
                · skip
                  obtain ⟨T24, X24, e24, st24⟩ := getS2 X0 hx hZ hown (host := "") (Or.inl (hw _ (List.mem_of_getElem? (i := 40) rfl))) Via.refl e0 S_CLASS (g := (mkF m 71 #[.val (.int p0)] [])) rfl (hb hby d3_71)
                  obtain ⟨fs, hr, hrun, hended, hW, hsame⟩ := X24.leave (v := some (.ref u8)) (fun h => by rw [Bd.returns] at h; cases h)
                  refine ⟨_, _, G22 _ ?_, hrun, hended, _, _, rfl, ?_, ⟨_, rfl⟩, hW, hsame.mono (by decide) (by decide)⟩
                  · skip
                    show Steps p.tables e below (s₁.setTop (mkF m 68 #[.val (.int p0)] [(.int (8 : Int32)), (.int p0)])) _
                    refine XS.icmpNo X0.here hx rfl (hb hby d3_68) rfl (teq hc68_23).2 ?_
                    show Steps p.tables e below (s₁.setTop (mkF m 71 #[.val (.int p0)] [])) _
                    refine st24 _ ?_
                    show Steps p.tables e below (T24.setTop (mkF m 74 #[.val (.int p0)] [(.ref u8)])) _
                    exact retOut X24 hx Bd.returns rfl (Or.inr (Or.inr (Or.inr (Or.inr ⟨rfl, rfl, rfl⟩)))) (hb hby d3_74) hr
                  · show Q3 Z p0 u0 u1 u2 u3 u4 u5 u6 u7 u8 u9 h0 n0 _ T24.heap _
                    rw [e24]
                    exact ⟨by rw [fex, if_neg hc2_2, if_neg hc11_5, if_neg hc20_8, if_neg hc29_11, if_neg hc38_14, if_neg hc48_17, if_neg hc58_20, if_pos hc68_23], N0, rfl⟩
                · skip
                  have G25 : ∀ t, Steps p.tables e below (s₁.setTop (mkF m 78 #[.val (.int p0)] [(.int (9 : Int32)), (.int p0)])) t → Steps p.tables e below (s₁.setTop (entryFrame m #[(.int p0)] 1)) t := by
                    intro t kt
                    refine G22 _ ?_
                    show Steps p.tables e below (s₁.setTop (mkF m 68 #[.val (.int p0)] [(.int (8 : Int32)), (.int p0)])) _
                    refine XS.icmpYes X0.here hx rfl (pc0 := 68) (pc' := 75) rfl (hb hby d3_68) rfl (feq hc68_23).2 (by decide) (by decide) ?_
                    show Steps p.tables e below (s₁.setTop (mkF m 75 #[.val (.int p0)] [])) _
                    refine XS.iloadN X0.here hx rfl (hb hby d3_75) rfl ?_
                    show Steps p.tables e below (s₁.setTop (mkF m 76 #[.val (.int p0)] [(.int p0)])) _
                    refine XS.bipush X0.here hx rfl (hb hby d3_76) ?_
                    exact kt
                  by_cases hc78_26 : p0 = (9 : Int32)
                  · skip
                    obtain ⟨T27, X27, e27, st27⟩ := getS2 X0 hx hZ hown (host := "") (Or.inl (hw _ (List.mem_of_getElem? (i := 43) rfl))) Via.refl e0 S_PASSWORD (g := (mkF m 81 #[.val (.int p0)] [])) rfl (hb hby d3_81)
                    obtain ⟨fs, hr, hrun, hended, hW, hsame⟩ := X27.leave (v := some (.ref u9)) (fun h => by rw [Bd.returns] at h; cases h)
                    refine ⟨_, _, G25 _ ?_, hrun, hended, _, _, rfl, ?_, ⟨_, rfl⟩, hW, hsame.mono (by decide) (by decide)⟩
                    · skip
                      show Steps p.tables e below (s₁.setTop (mkF m 78 #[.val (.int p0)] [(.int (9 : Int32)), (.int p0)])) _
                      refine XS.icmpNo X0.here hx rfl (hb hby d3_78) rfl (teq hc78_26).2 ?_
                      show Steps p.tables e below (s₁.setTop (mkF m 81 #[.val (.int p0)] [])) _
                      refine st27 _ ?_
                      show Steps p.tables e below (T27.setTop (mkF m 84 #[.val (.int p0)] [(.ref u9)])) _
                      exact retOut X27 hx Bd.returns rfl (Or.inr (Or.inr (Or.inr (Or.inr ⟨rfl, rfl, rfl⟩)))) (hb hby d3_84) hr
                    · show Q3 Z p0 u0 u1 u2 u3 u4 u5 u6 u7 u8 u9 h0 n0 _ T27.heap _
                      rw [e27]
                      exact ⟨by rw [fex, if_neg hc2_2, if_neg hc11_5, if_neg hc20_8, if_neg hc29_11, if_neg hc38_14, if_neg hc48_17, if_neg hc58_20, if_neg hc68_23, if_pos hc78_26], N0, rfl⟩
                  · skip
                    obtain ⟨T28, X28, e28, st28⟩ := getS2 X0 hx hZ hown (host := "") (Or.inl (hw _ (List.mem_of_getElem? (i := 35) rfl))) Via.refl e0 S_UNKNOWN (g := (mkF m 85 #[.val (.int p0)] [])) rfl (hb hby d3_85)
                    obtain ⟨fs, hr, hrun, hended, hW, hsame⟩ := X28.leave (v := some (.ref u0)) (fun h => by rw [Bd.returns] at h; cases h)
                    refine ⟨_, _, G25 _ ?_, hrun, hended, _, _, rfl, ?_, ⟨_, rfl⟩, hW, hsame.mono (by decide) (by decide)⟩
                    · skip
                      show Steps p.tables e below (s₁.setTop (mkF m 78 #[.val (.int p0)] [(.int (9 : Int32)), (.int p0)])) _
                      refine XS.icmpYes X0.here hx rfl (pc0 := 78) (pc' := 85) rfl (hb hby d3_78) rfl (feq hc78_26).2 (by decide) (by decide) ?_
                      show Steps p.tables e below (s₁.setTop (mkF m 85 #[.val (.int p0)] [])) _
                      refine st28 _ ?_
                      show Steps p.tables e below (T28.setTop (mkF m 88 #[.val (.int p0)] [(.ref u0)])) _
                      exact retOut X28 hx Bd.returns rfl (Or.inr (Or.inr (Or.inr (Or.inr ⟨rfl, rfl, rfl⟩)))) (hb hby d3_88) hr
                    · show Q3 Z p0 u0 u1 u2 u3 u4 u5 u6 u7 u8 u9 h0 n0 _ T28.heap _
                      rw [e28]
                      exact ⟨by rw [fex, if_neg hc2_2, if_neg hc11_5, if_neg hc20_8, if_neg hc29_11, if_neg hc38_14, if_neg hc48_17, if_neg hc58_20, if_neg hc68_23, if_neg hc78_26], N0, rfl⟩
theorem own_same (p : Int32) (u0 u1 u2 u3 u4 u5 u6 u7 u8 u9 : Addr) : fof p u0 u1 u2 u3 u4 u5 u6 u7 u8 u9 = fex p u0 u1 u2 u3 u4 u5 u6 u7 u8 u9 := by
  rw [fof, fex]
  by_cases h0 : (0 : Int32) = p
  · subst h0; rfl
  · rw [if_neg h0]
    by_cases h1 : (1 : Int32) = p
    · subst h1; rfl
    · by_cases h2 : (2 : Int32) = p
      · subst h2; rfl
      · by_cases h3 : (3 : Int32) = p
        · subst h3; rfl
        · by_cases h4 : (4 : Int32) = p
          · subst h4; rfl
          · by_cases h5 : (5 : Int32) = p
            · subst h5; rfl
            · by_cases h6 : (6 : Int32) = p
              · subst h6; rfl
              · by_cases h7 : (7 : Int32) = p
                · subst h7; rfl
                · by_cases h8 : (8 : Int32) = p
                  · subst h8; rfl
                  · by_cases h9 : (9 : Int32) = p
                    · subst h9; rfl
                    · rw [if_neg h1, if_neg h2, if_neg h3, if_neg h4, if_neg h5, if_neg h6, if_neg h7, if_neg h8, if_neg h9, if_neg (Ne.symm h1), if_neg (Ne.symm h2), if_neg (Ne.symm h3), if_neg (Ne.symm h4), if_neg (Ne.symm h5), if_neg (Ne.symm h6), if_neg (Ne.symm h7), if_neg (Ne.symm h8), if_neg (Ne.symm h9)]
theorem pd_1 : parseMethodDescriptor "(B)Lcom/example/moffett/moffett/catalogue/ConfigType;" = some ⟨[.byte], some (.object "com/example/moffett/moffett/catalogue/ConfigType")⟩ := by decide +kernel
def Q0 (Z : State) (p0 : Int32) (va : Addr) (kv : ClassId) (u0 u1 u2 u3 u4 u5 u6 u7 u8 u9 : Addr) (h0 : Heap) (n0 : Nat) (v : Option Value) (h : Heap) (L : List Loc) : Prop := v = some (.int (1 : Int32)) ∧ Fr n0 L
theorem ef_rm0 (m : MethodId) (x0 : Int32) : entryFrame m #[(.int x0)] maxLocals = mkF m 0 #[.val (.int x0), .unset, .unset] [] := by first | (simp [entryFrame, mkF, argsToLocals, Value.category, maxLocals]; done) | rfl
set_option maxRecDepth 65536 in
set_option maxHeartbeats 40000000 in
theorem rm0 (l : Launch) (Z : State) (a0 : Array Value) (hw : ∀ d ∈ tables_1, d.before a0 Z = true) (ws : List Jvm.Cond) (p0 : Int32) (va : Addr) (kv : ClassId) (u0 u1 u2 u3 u4 u5 u6 u7 u8 u9 : Addr) (h0 : Heap) (n0 : Nat) (Z0 : n0 ≤ h0.size) (SV : Sta Z h0 "com/example/moffett/moffett/catalogue/ConfigType" "$VALUES" "[Lcom/example/moffett/moffett/catalogue/ConfigType;" (.ref va)) (AV : Arv Z h0 va kv (.object "com/example/moffett/moffett/catalogue/ConfigType") (10 : Int32) [(.ref u0), (.ref u1), (.ref u2), (.ref u3), (.ref u4), (.ref u5), (.ref u6), (.ref u7), (.ref u8), (.ref u9)] .null) (EV : Exa Z h0 va "[Lcom/example/moffett/moffett/catalogue/ConfigType;") (S_UNKNOWN : Sta Z h0 "com/example/moffett/moffett/catalogue/ConfigType" "UNKNOWN" "Lcom/example/moffett/moffett/catalogue/ConfigType;" (.ref u0)) (S_BOOLEAN : Sta Z h0 "com/example/moffett/moffett/catalogue/ConfigType" "BOOLEAN" "Lcom/example/moffett/moffett/catalogue/ConfigType;" (.ref u1)) (S_STRING : Sta Z h0 "com/example/moffett/moffett/catalogue/ConfigType" "STRING" "Lcom/example/moffett/moffett/catalogue/ConfigType;" (.ref u2)) (S_INT : Sta Z h0 "com/example/moffett/moffett/catalogue/ConfigType" "INT" "Lcom/example/moffett/moffett/catalogue/ConfigType;" (.ref u3)) (S_SHORT : Sta Z h0 "com/example/moffett/moffett/catalogue/ConfigType" "SHORT" "Lcom/example/moffett/moffett/catalogue/ConfigType;" (.ref u4)) (S_LONG : Sta Z h0 "com/example/moffett/moffett/catalogue/ConfigType" "LONG" "Lcom/example/moffett/moffett/catalogue/ConfigType;" (.ref u5)) (S_DOUBLE : Sta Z h0 "com/example/moffett/moffett/catalogue/ConfigType" "DOUBLE" "Lcom/example/moffett/moffett/catalogue/ConfigType;" (.ref u6)) (S_LIST : Sta Z h0 "com/example/moffett/moffett/catalogue/ConfigType" "LIST" "Lcom/example/moffett/moffett/catalogue/ConfigType;" (.ref u7)) (S_CLASS : Sta Z h0 "com/example/moffett/moffett/catalogue/ConfigType" "CLASS" "Lcom/example/moffett/moffett/catalogue/ConfigType;" (.ref u8)) (S_PASSWORD : Sta Z h0 "com/example/moffett/moffett/catalogue/ConfigType" "PASSWORD" "Lcom/example/moffett/moffett/catalogue/ConfigType;" (.ref u9)) (F_UNKNOWN : Fld Z h0 u0 "com/example/moffett/moffett/catalogue/ConfigType" "id" "B" (.int (0 : Int32))) (F_BOOLEAN : Fld Z h0 u1 "com/example/moffett/moffett/catalogue/ConfigType" "id" "B" (.int (1 : Int32))) (F_STRING : Fld Z h0 u2 "com/example/moffett/moffett/catalogue/ConfigType" "id" "B" (.int (2 : Int32))) (F_INT : Fld Z h0 u3 "com/example/moffett/moffett/catalogue/ConfigType" "id" "B" (.int (3 : Int32))) (F_SHORT : Fld Z h0 u4 "com/example/moffett/moffett/catalogue/ConfigType" "id" "B" (.int (4 : Int32))) (F_LONG : Fld Z h0 u5 "com/example/moffett/moffett/catalogue/ConfigType" "id" "B" (.int (5 : Int32))) (F_DOUBLE : Fld Z h0 u6 "com/example/moffett/moffett/catalogue/ConfigType" "id" "B" (.int (6 : Int32))) (F_LIST : Fld Z h0 u7 "com/example/moffett/moffett/catalogue/ConfigType" "id" "B" (.int (7 : Int32))) (F_CLASS : Fld Z h0 u8 "com/example/moffett/moffett/catalogue/ConfigType" "id" "B" (.int (8 : Int32))) (F_PASSWORD : Fld Z h0 u9 "com/example/moffett/moffett/catalogue/ConfigType" "id" "B" (.int (9 : Int32))) (FC : ∀ cl : Cell, h0[va]? = some cl → FitC Z cl) :
    MetFree l x (head1 (Jvm.Cond.code x code maxLocals ret :: ws) room_1) (fun a U => a = #[(.int p0)] ∧ Z.Warmed39 U.vm ∧ U.heap = h0) (fun _ _ _ _ _ => True) (fun _ U o U' => ∃ v L, o = .returned v ∧ Q0 Z p0 va kv u0 u1 u2 u3 u4 u5 u6 u7 u8 u9 h0 n0 v U'.heap L ∧ FrameEnd U o U' L room_1.cells room_1.slots) := by
  refine MetFree.of_bodySF (plainFor_of_name pnc_com_example_moffett_moffett_catalogue_ConfigTypeOfPinLaw) hisR ?_
  intro p e s m args below meth c s₁ Bd hml0 hP hK
  obtain ⟨rfl, hZ, hh⟩ := hP
  have hx := Bd.exec
  have hby := Bd.bytes
  have hml : c.maxLocals = 3 := hml0
  have hown : s.vm.findClass "com/example/moffett/moffett/catalogue/ConfigTypeOfPinLaw" = some m.cls := findClass_of_methodNamed Bd.named
  have hnm := (name_of_methodNamed Bd.named Bd.method).1
  have X0 : Stand p l e room_1 s m #[(.int p0)] below meth c s₁ [] 0 0 := Stand.of_body Bd
  have e0 : s₁.heap = h0 := by rw [← hh, Bd.state]; rfl
  have N0 := Fr.nil n0
  have kp0 : Keep h0 h0 [] := Keep.refl _ _
  have G0 : ∀ t, Steps p.tables e below (s₁.setTop (mkF m 0 #[.val (.int p0), .unset, .unset] [])) t → Steps p.tables e below (s₁.setTop (entryFrame m #[(.int p0)] maxLocals)) t := fun t k => castTop (ef_rm0 m p0) k
  obtain ⟨_, _, ⟨T1, L1, k1, n1⟩, -, X1, ⟨Lc1, hQ1, l1, y1, z1⟩, st1⟩ := Jvm.LawKit.callS X0 hx (y := (⟨"com/example/moffett/moffett/catalogue/ConfigType", "of", "(B)Lcom/example/moffett/moffett/catalogue/ConfigType;"⟩ : MethodName)) hown (mvT hZ (hw _ (List.mem_of_getElem? (i := 0) rfl))) (mvT hZ (hw _ (List.mem_of_getElem? (i := 1) rfl))) (mvT hZ (hw _ (List.mem_of_getElem? (i := 2) rfl))) (mvT hZ (hw _ (List.mem_of_getElem? (i := 3) rfl))) (by decide) (backOf (W := 0) (rm1 l Z a0 hw [] (p0.toInt8.toInt32) va kv u0 u1 u2 u3 u4 u5 u6 u7 u8 u9 h0 n0 Z0 SV AV EV S_UNKNOWN F_UNKNOWN F_BOOLEAN F_STRING F_INT F_SHORT F_LONG F_DOUBLE F_LIST F_CLASS F_PASSWORD FC) hZ (hw _ (List.mem_of_getElem? (i := 3) rfl)) (hw _ (List.mem_of_getElem? (i := 2) rfl)) (by decide) (by decide)) (g := (mkF m 4 #[.val (.int p0), .val (.int (p0.toInt8.toInt32)), .unset] [(.int (p0.toInt8.toInt32))])) rfl (by rw [hml]; rfl) (argsL := [(.int (p0.toInt8.toInt32))]) (rest := []) (lenOf pd_1 rfl) rfl (by show 2 * 0 + _ ≤ _; exact Nat.le_of_eq rfl) (hb hby at_4) (fun _ _ => ⟨rfl, e0, (by decide : 0 + 1 ≤ _), (by decide : 0 + 10 ≤ _)⟩)
  dsimp only [Pt.U, Pt.locs, Pt.cells, Pt.slots] at X1 l1 y1 z1 st1 hQ1
  subst l1 y1 z1
  obtain ⟨rfl, N1q, E1⟩ := hQ1
  have N1 := Fr.app N0 N1q
  have f2 : Sta Z T1.heap "com/example/moffett/moffett/catalogue/ConfigType" "$VALUES" "[Lcom/example/moffett/moffett/catalogue/ConfigType;" (.ref va) := SV.ext E1
  have f3 : Arv Z T1.heap va kv (.object "com/example/moffett/moffett/catalogue/ConfigType") (10 : Int32) [(.ref u0), (.ref u1), (.ref u2), (.ref u3), (.ref u4), (.ref u5), (.ref u6), (.ref u7), (.ref u8), (.ref u9)] .null := AV.ext E1
  have f4 : Exa Z T1.heap va "[Lcom/example/moffett/moffett/catalogue/ConfigType;" := EV.ext E1
  have f5 : Sta Z T1.heap "com/example/moffett/moffett/catalogue/ConfigType" "UNKNOWN" "Lcom/example/moffett/moffett/catalogue/ConfigType;" (.ref u0) := S_UNKNOWN.ext E1
  have f6 : Sta Z T1.heap "com/example/moffett/moffett/catalogue/ConfigType" "BOOLEAN" "Lcom/example/moffett/moffett/catalogue/ConfigType;" (.ref u1) := S_BOOLEAN.ext E1
  have f7 : Sta Z T1.heap "com/example/moffett/moffett/catalogue/ConfigType" "STRING" "Lcom/example/moffett/moffett/catalogue/ConfigType;" (.ref u2) := S_STRING.ext E1
  have f8 : Sta Z T1.heap "com/example/moffett/moffett/catalogue/ConfigType" "INT" "Lcom/example/moffett/moffett/catalogue/ConfigType;" (.ref u3) := S_INT.ext E1
  have f9 : Sta Z T1.heap "com/example/moffett/moffett/catalogue/ConfigType" "SHORT" "Lcom/example/moffett/moffett/catalogue/ConfigType;" (.ref u4) := S_SHORT.ext E1
  have f10 : Sta Z T1.heap "com/example/moffett/moffett/catalogue/ConfigType" "LONG" "Lcom/example/moffett/moffett/catalogue/ConfigType;" (.ref u5) := S_LONG.ext E1
  have f11 : Sta Z T1.heap "com/example/moffett/moffett/catalogue/ConfigType" "DOUBLE" "Lcom/example/moffett/moffett/catalogue/ConfigType;" (.ref u6) := S_DOUBLE.ext E1
  have f12 : Sta Z T1.heap "com/example/moffett/moffett/catalogue/ConfigType" "LIST" "Lcom/example/moffett/moffett/catalogue/ConfigType;" (.ref u7) := S_LIST.ext E1
  have f13 : Sta Z T1.heap "com/example/moffett/moffett/catalogue/ConfigType" "CLASS" "Lcom/example/moffett/moffett/catalogue/ConfigType;" (.ref u8) := S_CLASS.ext E1
  have f14 : Sta Z T1.heap "com/example/moffett/moffett/catalogue/ConfigType" "PASSWORD" "Lcom/example/moffett/moffett/catalogue/ConfigType;" (.ref u9) := S_PASSWORD.ext E1
  have f15 : Fld Z T1.heap u0 "com/example/moffett/moffett/catalogue/ConfigType" "id" "B" (.int (0 : Int32)) := F_UNKNOWN.ext E1
  have f16 : Fld Z T1.heap u1 "com/example/moffett/moffett/catalogue/ConfigType" "id" "B" (.int (1 : Int32)) := F_BOOLEAN.ext E1
  have f17 : Fld Z T1.heap u2 "com/example/moffett/moffett/catalogue/ConfigType" "id" "B" (.int (2 : Int32)) := F_STRING.ext E1
  have f18 : Fld Z T1.heap u3 "com/example/moffett/moffett/catalogue/ConfigType" "id" "B" (.int (3 : Int32)) := F_INT.ext E1
  have f19 : Fld Z T1.heap u4 "com/example/moffett/moffett/catalogue/ConfigType" "id" "B" (.int (4 : Int32)) := F_SHORT.ext E1
  have f20 : Fld Z T1.heap u5 "com/example/moffett/moffett/catalogue/ConfigType" "id" "B" (.int (5 : Int32)) := F_LONG.ext E1
  have f21 : Fld Z T1.heap u6 "com/example/moffett/moffett/catalogue/ConfigType" "id" "B" (.int (6 : Int32)) := F_DOUBLE.ext E1
  have f22 : Fld Z T1.heap u7 "com/example/moffett/moffett/catalogue/ConfigType" "id" "B" (.int (7 : Int32)) := F_LIST.ext E1
  have f23 : Fld Z T1.heap u8 "com/example/moffett/moffett/catalogue/ConfigType" "id" "B" (.int (8 : Int32)) := F_CLASS.ext E1
  have f24 : Fld Z T1.heap u9 "com/example/moffett/moffett/catalogue/ConfigType" "id" "B" (.int (9 : Int32)) := F_PASSWORD.ext E1
  have z25 : n0 ≤ T1.heap.size := Nat.le_trans Z0 E1.1
  have kp26 : Keep h0 T1.heap [] := kp0.ext E1
  obtain ⟨_, _, ⟨T27, L27, k27, n27⟩, -, X27, ⟨Lc27, hQ27, l27, y27, z27⟩, st27⟩ := Jvm.LawKit.callS X1 hx (y := (⟨"com/example/moffett/moffett/catalogue/ConfigTypeOfPinLaw", "expected", "(B)Lcom/example/moffett/moffett/catalogue/ConfigType;"⟩ : MethodName)) hown (mvT hZ (hw _ (List.mem_of_getElem? (i := 31) rfl))) (mvT hZ (hw _ (List.mem_of_getElem? (i := 32) rfl))) (mvT hZ (hw _ (List.mem_of_getElem? (i := 33) rfl))) (mvT hZ (hw _ (List.mem_of_getElem? (i := 34) rfl))) (by decide) (backOf (W := 1) (rm3 l Z a0 hw [] (p0.toInt8.toInt32) u0 u1 u2 u3 u4 u5 u6 u7 u8 u9 T1.heap n0 z25 f5 f6 f7 f8 f9 f10 f11 f12 f13 f14) hZ (hw _ (List.mem_of_getElem? (i := 34) rfl)) (hw _ (List.mem_of_getElem? (i := 33) rfl)) (by decide) (by decide)) (g := (mkF m 10 #[.val (.int p0), .val (.int (p0.toInt8.toInt32)), .val (.ref (fof (p0.toInt8.toInt32) u0 u1 u2 u3 u4 u5 u6 u7 u8 u9))] [(.int (p0.toInt8.toInt32)), (.ref (fof (p0.toInt8.toInt32) u0 u1 u2 u3 u4 u5 u6 u7 u8 u9))])) rfl (by rw [hml]; rfl) (argsL := [(.int (p0.toInt8.toInt32))]) (rest := [(.ref (fof (p0.toInt8.toInt32) u0 u1 u2 u3 u4 u5 u6 u7 u8 u9))]) (lenOf pd_1 rfl) rfl (by show 2 * 0 + _ ≤ _; exact Nat.le_of_eq rfl) (hb hby at_10) (fun _ _ => ⟨rfl, rfl, (by decide : 1 + 0 ≤ _), (by decide : 10 + 0 ≤ _)⟩)
  dsimp only [Pt.U, Pt.locs, Pt.cells, Pt.slots] at X27 l27 y27 z27 st27 hQ27
  subst l27 y27 z27
  obtain ⟨rfl, N27q, eh27⟩ := hQ27
  have N27 := Fr.app N1 N27q
  have G28 : ∀ t, Steps p.tables e below (T27.setTop (mkF m 13 #[.val (.int p0), .val (.int (p0.toInt8.toInt32)), .val (.ref (fof (p0.toInt8.toInt32) u0 u1 u2 u3 u4 u5 u6 u7 u8 u9))] [(.ref (fex (p0.toInt8.toInt32) u0 u1 u2 u3 u4 u5 u6 u7 u8 u9)), (.ref (fof (p0.toInt8.toInt32) u0 u1 u2 u3 u4 u5 u6 u7 u8 u9))])) t → Steps p.tables e below (s₁.setTop (entryFrame m #[(.int p0)] maxLocals)) t := by
    intro t kt
    refine G0 _ ?_
    show Steps p.tables e below (s₁.setTop (mkF m 0 #[.val (.int p0), .unset, .unset] [])) _
    refine XS.iloadN X0.here hx rfl (hb hby at_0) rfl ?_
    show Steps p.tables e below (s₁.setTop (mkF m 1 #[.val (.int p0), .unset, .unset] [(.int p0)])) _
    refine XS.i2b X0.here hx rfl (hb hby at_1) rfl ?_
    show Steps p.tables e below (s₁.setTop (mkF m 2 #[.val (.int p0), .unset, .unset] [(.int (p0.toInt8.toInt32))])) _
    refine XS.istoreN X0.here hx rfl (hb hby at_2) rfl (l' := #[.val (.int p0), .val (.int (p0.toInt8.toInt32)), .unset]) rfl ?_
    show Steps p.tables e below (s₁.setTop (mkF m 3 #[.val (.int p0), .val (.int (p0.toInt8.toInt32)), .unset] [])) _
    refine XS.iloadN X0.here hx rfl (hb hby at_3) rfl ?_
    show Steps p.tables e below (s₁.setTop (mkF m 4 #[.val (.int p0), .val (.int (p0.toInt8.toInt32)), .unset] [(.int (p0.toInt8.toInt32))])) _
    refine st1 _ ?_
    show Steps p.tables e below (T1.setTop (mkF m 7 #[.val (.int p0), .val (.int (p0.toInt8.toInt32)), .unset] [(.ref (fof (p0.toInt8.toInt32) u0 u1 u2 u3 u4 u5 u6 u7 u8 u9))])) _
    refine XS.astoreN X1.here hx rfl (hb hby at_7) rfl rfl (l' := #[.val (.int p0), .val (.int (p0.toInt8.toInt32)), .val (.ref (fof (p0.toInt8.toInt32) u0 u1 u2 u3 u4 u5 u6 u7 u8 u9))]) rfl ?_
    show Steps p.tables e below (T1.setTop (mkF m 8 #[.val (.int p0), .val (.int (p0.toInt8.toInt32)), .val (.ref (fof (p0.toInt8.toInt32) u0 u1 u2 u3 u4 u5 u6 u7 u8 u9))] [])) _
    refine XS.aloadN X1.here hx rfl (hb hby at_8) rfl rfl ?_
    show Steps p.tables e below (T1.setTop (mkF m 9 #[.val (.int p0), .val (.int (p0.toInt8.toInt32)), .val (.ref (fof (p0.toInt8.toInt32) u0 u1 u2 u3 u4 u5 u6 u7 u8 u9))] [(.ref (fof (p0.toInt8.toInt32) u0 u1 u2 u3 u4 u5 u6 u7 u8 u9))])) _
    refine XS.iloadN X1.here hx rfl (hb hby at_9) rfl ?_
    show Steps p.tables e below (T1.setTop (mkF m 10 #[.val (.int p0), .val (.int (p0.toInt8.toInt32)), .val (.ref (fof (p0.toInt8.toInt32) u0 u1 u2 u3 u4 u5 u6 u7 u8 u9))] [(.int (p0.toInt8.toInt32)), (.ref (fof (p0.toInt8.toInt32) u0 u1 u2 u3 u4 u5 u6 u7 u8 u9))])) _
    refine st27 _ ?_
    exact kt
  have hc13_29 : (fof (p0.toInt8.toInt32) u0 u1 u2 u3 u4 u5 u6 u7 u8 u9) = (fex (p0.toInt8.toInt32) u0 u1 u2 u3 u4 u5 u6 u7 u8 u9) := own_same _ _ _ _ _ _ _ _ _ _ _
  obtain ⟨fs, hr, hrun, hended, hW, hsame⟩ := X27.leave (v := some (.int (1 : Int32))) (fun h => by rw [Bd.returns] at h; cases h)
  refine ⟨_, _, G28 _ ?_, hrun, hended, _, _, rfl, ?_, ⟨_, rfl⟩, hW, hsame.mono (by decide) (by decide)⟩
  · skip
    show Steps p.tables e below (T27.setTop (mkF m 13 #[.val (.int p0), .val (.int (p0.toInt8.toInt32)), .val (.ref (fof (p0.toInt8.toInt32) u0 u1 u2 u3 u4 u5 u6 u7 u8 u9))] [(.ref (fex (p0.toInt8.toInt32) u0 u1 u2 u3 u4 u5 u6 u7 u8 u9)), (.ref (fof (p0.toInt8.toInt32) u0 u1 u2 u3 u4 u5 u6 u7 u8 u9))])) _
    refine Jvm.RoadKit.acmp (g := (mkF m 13 #[.val (.int p0), .val (.int (p0.toInt8.toInt32)), .val (.ref (fof (p0.toInt8.toInt32) u0 u1 u2 u3 u4 u5 u6 u7 u8 u9))] [(.ref (fex (p0.toInt8.toInt32) u0 u1 u2 u3 u4 u5 u6 u7 u8 u9)), (.ref (fof (p0.toInt8.toInt32) u0 u1 u2 u3 u4 u5 u6 u7 u8 u9))])) X27 hx rfl rfl rfl (pc0 := 13) (pc' := 16) (same := true) rfl (hb hby at_13) rfl (decide_eq_true (congrArg Value.ref hc13_29)) (by decide) (by decide) ?_
    show Steps p.tables e below (T27.setTop (mkF m 16 #[.val (.int p0), .val (.int (p0.toInt8.toInt32)), .val (.ref (fof (p0.toInt8.toInt32) u0 u1 u2 u3 u4 u5 u6 u7 u8 u9))] [])) _
    refine XS.iconst X27.here hx rfl (hb hby at_16) ?_
    show Steps p.tables e below (T27.setTop (mkF m 17 #[.val (.int p0), .val (.int (p0.toInt8.toInt32)), .val (.ref (fof (p0.toInt8.toInt32) u0 u1 u2 u3 u4 u5 u6 u7 u8 u9))] [(.int (1 : Int32))])) _
    refine XS.goto X27.here hx rfl (pc0 := 17) (pc' := 21) rfl (hb hby at_17) (by decide) (by decide) ?_
    show Steps p.tables e below (T27.setTop (mkF m 21 #[.val (.int p0), .val (.int (p0.toInt8.toInt32)), .val (.ref (fof (p0.toInt8.toInt32) u0 u1 u2 u3 u4 u5 u6 u7 u8 u9))] [(.int (1 : Int32))])) _
    exact retN X27 hx (t := .boolean) Bd.returns (by simp) (hb hby at_21) hr
  · show Q0 Z p0 va kv u0 u1 u2 u3 u4 u5 u6 u7 u8 u9 h0 n0 _ T27.heap _
    rw [eh27]
    exact ⟨rfl, N27⟩
theorem own_eqI {args : Array Value} {s : State} {t : Term} {k : Int32} (h : (Jvm.Cond.eq t (Jvm.Term.int k)).value args s none s [] = some true) : t.eval args s none [] s = some (.int k) := by
  simp only [Cond.value, Term.eval] at h
  cases ht : t.eval args s none [] s with
  | none => simp [ht] at h
  | some x => cases x <;> simp [ht] at h ⊢; exact h
theorem own_eqR {args : Array Value} {s : State} {t t2 : Term} {u : Addr} (h : (Jvm.Cond.eq t t2).value args s none s [] = some true) (e : t2.eval args s none [] s = some (.ref u)) : t.eval args s none [] s = some (.ref u) := by
  simp only [Cond.value, e] at h
  cases ht : t.eval args s none [] s with
  | none => simp [ht] at h
  | some x => cases x <;> simp [ht] at h ⊢; exact h
theorem own_len {args : Array Value} {s : State} {t : Term} {x : Addr} {cl : Cell} {k : Int32} (h : (Term.length t).eval args s none [] s = some (.int k)) (ht : t.eval args s none [] s = some (.ref x)) (ha : s.arrayAt? x = some cl) : cl.slots.size < 2 ^ 31 ∧ cl.slots.size.toInt32 = k := by
  by_cases hl : cl.slots.size < 2 ^ 31
  · rw [len_f ht ha hl] at h
    exact ⟨hl, Value.int.inj (Option.some.inj h)⟩
  · exfalso
    simp [Term.eval, ht, ha, hl] at h
set_option maxRecDepth 65536 in
set_option maxHeartbeats 40000000 in
theorem comes_1 {Post : Tables → Env → Array Value → State → Outcome → State → Prop} (hpost : ∀ tb e args s v u, (limb_1_1.after args s (.returned v) u = true ∧ limb_1_2.after args s (.returned v) u = true ∧ True) → FrameEnd s (.returned v) u (Jvm.fieldLocs frame_1_writes args s ++ Jvm.arrayLocs frame_1_arrays args s ++ Jvm.staticLocs frame_1_statics s) 16 128 → Post tb e args s (.returned v) u) :
    ArmFor flags0 classFile x code maxLocals ret World_1 tables_1 room_1 Calls_1 rest_1 Pre_1 Post := by
  intro l hfl _ _ p e ha hc hk s m args below hf hA hF happ hP
  obtain ⟨hcalls, hrest, hpre⟩ := hP
  obtain ⟨-, -, -, hnamed, -, -, -, hat⟩ := (Spec.applies_iff hf).mp happ
  obtain ⟨hg, hn⟩ := and_e (Cond.before_iff.mp (show (Jvm.Cond.and given_1 narrow_1).before args s = true from hpre))
  obtain ⟨g1, g2⟩ := and_e hg
  obtain ⟨w0, rfl⟩ : ∃ w0 : Value, args = #[w0] := by
    have hs : args.size = 1 := by simpa [Cond.value, given_1] using g1
    obtain ⟨L⟩ := args
    match L, hs with
    | [w0], _ => exact ⟨w0, rfl⟩
  have hw := fun d (hd : d ∈ tables_1) => atoms_spec (ws := Jvm.Cond.code x code maxLocals ret :: tables_1) hat d (List.mem_cons_of_mem _ hd)
  have hfit : Fit s := fun {y c} hc i hi => by
    obtain ⟨ha, rfl⟩ := Array.getElem?_eq_some_iff.mp hc
    have q := List.all_eq_true.mp ((Array.all_eq_true_iff_forall_mem.mp hF) _ (Array.getElem_mem ha)) i (List.mem_range.mpr hi)
    simpa [Array.getElem?_eq_getElem hi] using q
  obtain ⟨i0, ei0⟩ := is_v g2
  obtain rfl : w0 = (.int i0) := Option.some.inj ei0
  obtain ⟨m1a, m1b⟩ := and_e hn
  obtain ⟨m2a, m2b⟩ := and_e m1b
  obtain ⟨m3a, m3b⟩ := and_e m2b
  obtain ⟨m4a, m4b⟩ := and_e m3b
  obtain ⟨m5a, m5b⟩ := and_e m4b
  obtain ⟨m6a, m6b⟩ := and_e m5b
  obtain ⟨m7a, m7b⟩ := and_e m6b
  obtain ⟨m8a, m8b⟩ := and_e m7b
  obtain ⟨m9a, m9b⟩ := and_e m8b
  obtain ⟨m10a, m10b⟩ := and_e m9b
  obtain ⟨m11a, m11b⟩ := and_e m10b
  obtain ⟨m12a, m12b⟩ := and_e m11b
  obtain ⟨m13a, m13b⟩ := and_e m12b
  obtain ⟨m14a, m14b⟩ := and_e m13b
  obtain ⟨m15a, m15b⟩ := and_e m14b
  obtain ⟨m16a, m16b⟩ := and_e m15b
  obtain ⟨m17a, m17b⟩ := and_e m16b
  obtain ⟨m18a, m18b⟩ := and_e m17b
  obtain ⟨m19a, m19b⟩ := and_e m18b
  obtain ⟨m20a, m20b⟩ := and_e m19b
  obtain ⟨m21a, m21b⟩ := and_e m20b
  obtain ⟨m22a, m22b⟩ := and_e m21b
  obtain ⟨m23a, m23b⟩ := and_e m22b
  obtain ⟨m24a, m24b⟩ := and_e m23b
  obtain ⟨m25a, m25b⟩ := and_e m24b
  obtain ⟨m26a, m26b⟩ := and_e m25b
  obtain ⟨m27a, m27b⟩ := and_e m26b
  obtain ⟨m28a, m28b⟩ := and_e m27b
  obtain ⟨m29a, m29b⟩ := and_e m28b
  obtain ⟨m30a, m30b⟩ := and_e m29b
  obtain ⟨m31a, m31b⟩ := and_e m30b
  obtain ⟨m32a, m32b⟩ := and_e m31b
  obtain ⟨u0, ev0⟩ := exa_v m4a
  have S0 := Sta.start ev0 (Or.inr ⟨(hw _ (List.mem_of_getElem? (i := 2) rfl)), (hw _ (List.mem_of_getElem? (i := 16) rfl))⟩)
  have F0 := Fld.start ((fld_at ev0).symm.trans (own_eqI m24a))
  obtain ⟨u1, ev1⟩ := exa_v m6a
  have S1 := Sta.start ev1 (Or.inr ⟨(hw _ (List.mem_of_getElem? (i := 2) rfl)), (hw _ (List.mem_of_getElem? (i := 17) rfl))⟩)
  have F1 := Fld.start ((fld_at ev1).symm.trans (own_eqI m25a))
  obtain ⟨u2, ev2⟩ := exa_v m8a
  have S2 := Sta.start ev2 (Or.inr ⟨(hw _ (List.mem_of_getElem? (i := 2) rfl)), (hw _ (List.mem_of_getElem? (i := 18) rfl))⟩)
  have F2 := Fld.start ((fld_at ev2).symm.trans (own_eqI m26a))
  obtain ⟨u3, ev3⟩ := exa_v m10a
  have S3 := Sta.start ev3 (Or.inr ⟨(hw _ (List.mem_of_getElem? (i := 2) rfl)), (hw _ (List.mem_of_getElem? (i := 19) rfl))⟩)
  have F3 := Fld.start ((fld_at ev3).symm.trans (own_eqI m27a))
  obtain ⟨u4, ev4⟩ := exa_v m12a
  have S4 := Sta.start ev4 (Or.inr ⟨(hw _ (List.mem_of_getElem? (i := 2) rfl)), (hw _ (List.mem_of_getElem? (i := 20) rfl))⟩)
  have F4 := Fld.start ((fld_at ev4).symm.trans (own_eqI m28a))
  obtain ⟨u5, ev5⟩ := exa_v m14a
  have S5 := Sta.start ev5 (Or.inr ⟨(hw _ (List.mem_of_getElem? (i := 2) rfl)), (hw _ (List.mem_of_getElem? (i := 21) rfl))⟩)
  have F5 := Fld.start ((fld_at ev5).symm.trans (own_eqI m29a))
  obtain ⟨u6, ev6⟩ := exa_v m16a
  have S6 := Sta.start ev6 (Or.inr ⟨(hw _ (List.mem_of_getElem? (i := 2) rfl)), (hw _ (List.mem_of_getElem? (i := 22) rfl))⟩)
  have F6 := Fld.start ((fld_at ev6).symm.trans (own_eqI m30a))
  obtain ⟨u7, ev7⟩ := exa_v m18a
  have S7 := Sta.start ev7 (Or.inr ⟨(hw _ (List.mem_of_getElem? (i := 2) rfl)), (hw _ (List.mem_of_getElem? (i := 23) rfl))⟩)
  have F7 := Fld.start ((fld_at ev7).symm.trans (own_eqI m31a))
  obtain ⟨u8, ev8⟩ := exa_v m20a
  have S8 := Sta.start ev8 (Or.inr ⟨(hw _ (List.mem_of_getElem? (i := 2) rfl)), (hw _ (List.mem_of_getElem? (i := 24) rfl))⟩)
  have F8 := Fld.start ((fld_at ev8).symm.trans (own_eqI m32a))
  obtain ⟨u9, ev9⟩ := exa_v m22a
  have S9 := Sta.start ev9 (Or.inr ⟨(hw _ (List.mem_of_getElem? (i := 2) rfl)), (hw _ (List.mem_of_getElem? (i := 25) rfl))⟩)
  have F9 := Fld.start ((fld_at ev9).symm.trans (own_eqI m32b))
  obtain ⟨va, evV⟩ := arr_v m1a
  obtain ⟨cl, AV⟩ := Arr.start evV m1a
  have EV := Exa.start evV m2a
  have SV := Sta.start evV (Or.inr ⟨(hw _ (List.mem_of_getElem? (i := 2) rfl)), (hw _ (List.mem_of_getElem? (i := 8) rfl))⟩)
  obtain ⟨lz1, lz2⟩ := own_len (own_eqI m3a) evV (AV.fin (Vm.Alike.refl _))
  have H0 : cl.slots[0]? = some (.ref u0) := (elem_in (own_eqR m5a ev0) evV (Term.int_eval _) AV.1).2
  have H1 : cl.slots[1]? = some (.ref u1) := (elem_in (own_eqR m7a ev1) evV (Term.int_eval _) AV.1).2
  have H2 : cl.slots[2]? = some (.ref u2) := (elem_in (own_eqR m9a ev2) evV (Term.int_eval _) AV.1).2
  have H3 : cl.slots[3]? = some (.ref u3) := (elem_in (own_eqR m11a ev3) evV (Term.int_eval _) AV.1).2
  have H4 : cl.slots[4]? = some (.ref u4) := (elem_in (own_eqR m13a ev4) evV (Term.int_eval _) AV.1).2
  have H5 : cl.slots[5]? = some (.ref u5) := (elem_in (own_eqR m15a ev5) evV (Term.int_eval _) AV.1).2
  have H6 : cl.slots[6]? = some (.ref u6) := (elem_in (own_eqR m17a ev6) evV (Term.int_eval _) AV.1).2
  have H7 : cl.slots[7]? = some (.ref u7) := (elem_in (own_eqR m19a ev7) evV (Term.int_eval _) AV.1).2
  have H8 : cl.slots[8]? = some (.ref u8) := (elem_in (own_eqR m21a ev8) evV (Term.int_eval _) AV.1).2
  have H9 : cl.slots[9]? = some (.ref u9) := (elem_in (own_eqR m23a ev9) evV (Term.int_eval _) AV.1).2
  have FC : ∀ cl : Cell, s.heap[va]? = some cl → FitC s cl := fun c2 h2 => by
    cases AV.1.symm.trans h2
    exact FitC.start hfit AV
  have VV : Arv s s.heap va cl.cls (.object "com/example/moffett/moffett/catalogue/ConfigType") (10 : Int32) [(.ref u0), (.ref u1), (.ref u2), (.ref u3), (.ref u4), (.ref u5), (.ref u6), (.ref u7), (.ref u8), (.ref u9)] .null := Arv.start hfit AV lz1 lz2 (by decide) rfl ⟨H0, H1, H2, H3, H4, H5, H6, H7, H8, H9, trivial⟩
  obtain ⟨n, o, h1, h2, h3, _, L, rfl, ⟨rfl, N⟩, hq⟩ := rm0 l s _ hw tables_1 i0 va cl.cls u0 u1 u2 u3 u4 u5 u6 u7 u8 u9 s.heap s.heap.size (Nat.le_refl _) SV VV EV S0 S1 S2 S3 S4 S5 S6 S7 S8 S9 F0 F1 F2 F3 F4 F5 F6 F7 F8 F9 FC p e ha hc hk s m _ below hf ((Spec.applies_iff_loose hf).mp happ).1 ⟨rfl, State.Warmed39.refl s, rfl⟩ trivial
  refine ⟨n, _, h1, h2, h3, hpost _ _ _ _ _ _ ⟨Cond.after_iff.mpr rfl, Cond.after_iff.mpr (eq_i res_at (Term.int_eval (1)) rfl), trivial⟩ ⟨hq.1, hq.2.1, (hq.2.2.sift fun y hy => Or.inr (N y hy)).mono (by decide) (by decide)⟩⟩
theorem main_1_1 : Claimed_1_1 := comes_1 fun _ _ _ _ _ _ h hF => ⟨h.1, hF⟩
theorem main_1_2 : Claimed_1_2 := comes_1 fun _ _ _ _ _ _ h hF => ⟨h.2.1, hF⟩
end Jvm.Pilot.@@N@@
namespace Jvm.Pilot.@@N@@
open Jvm Jvm.ClassFile Sem Op Lib Jvm.Free Jvm.Stand Jvm.Pilot.@@N@@.Jvm.D
/-! MADE BY PROGRAM (witnessworld.py) out of the Statement's table words and the real class files: 13 classes; the members and pool entries that the words name. The judged class is class 1, her method 1. -/
namespace start1
open Jvm.ClassFile
def u (s : String) : CpInfo := .utf8 (stringToUtf16 s)
/-- a pool by its gaps: so many unusable entries, then the entry; so many at the end -/
def gap : Nat → List CpInfo → List CpInfo
  | 0, r => r
  | n + 1, r => .unusable :: gap n r
def poolList (es : List (Nat × CpInfo)) (last : Nat) : List CpInfo := es.foldr (fun e r => gap e.1 (e.2 :: r)) (gap last [])
def pool (es : List (Nat × CpInfo)) (last : Nat) : Array CpInfo := ⟨poolList es last⟩
def fileOf (pool : Array CpInfo) (this : Nat) (attrs : Array Attribute := #[]) (ms : Array MethodInfo := #[]) (fl : Nat := 33) (sup : Nat := 0) (ifs : Array Nat := #[]) (fds : Array FieldInfo := #[]) : ClassFile where
  minorVersion := 0
  majorVersion := 65
  constantPool := pool
  accessFlags := fl
  thisClass := this
  superClass := sup
  interfaces := ifs
  fields := fds
  methods := ms
  attributes := attrs
def plain (name : String) (sup : Option ClassId) : Class where
  name := name
  kind := .ordinary
  loader := none
  accessFlags := 33
  super := sup
  interfaces := #[]
  cf := none
  fields := #[]
  methods := #[]
  instanceTypes := #[]
  staticTypes := #[]
  resolved := #[]
  callSites := []
  init := .initialized
  statics := none
  mirror := none

def pool0 : Array CpInfo := pool [(5, u "<init>"), (0, u "()V"), (1, .class_ 10), (1, u "java/lang/Object"), (85, u "clone"), (0, u "()Ljava/lang/Object;")] 26

def k0m0 : Method := { name := "<init>", desc := "()V", sig := { parameters := [], returnType := none }, accessFlags := 1, code := none }
def k0m1 : Method := { name := "clone", desc := "()Ljava/lang/Object;", sig := { parameters := [], returnType := some (.object "java/lang/Object") }, accessFlags := 260, code := none }
/-- java/lang/Object -/
def k0 : Class := { plain "java/lang/Object" none with
  accessFlags := 33
  interfaces := #[]
  cf := some (fileOf pool0 8 #[] #[{ accessFlags := 1, nameIndex := 5, descriptorIndex := 6, attributes := #[] }, { accessFlags := 260, nameIndex := 96, descriptorIndex := 97, attributes := #[] }] 33 0 #[] #[])
  fields := #[]
  methods := #[k0m0, k0m1]
  instanceTypes := #[]
  staticTypes := #[]
  resolved := Array.replicate 124 none
  statics := none }

def pool1 : Array CpInfo := pool [(2, .class_ 4), (1, u "java/lang/Object"), (0, u "<init>"), (0, u "()V"), (0, .methodref 8 9), (0, .class_ 10), (0, .nameAndType 11 12), (0, u "com/example/moffett/moffett/catalogue/ConfigType"), (0, u "of"), (0, u "(B)Lcom/example/moffett/moffett/catalogue/ConfigType;"), (0, .methodref 14 15), (0, .class_ 16), (0, .nameAndType 17 12), (0, u "com/example/moffett/moffett/catalogue/ConfigTypeOfPinLaw"), (0, u "expected"), (0, .fieldref 8 19), (0, .nameAndType 20 21), (0, u "BOOLEAN"), (0, u "Lcom/example/moffett/moffett/catalogue/ConfigType;"), (0, .fieldref 8 23), (0, .nameAndType 24 21), (0, u "STRING"), (0, .fieldref 8 26), (0, .nameAndType 27 21), (0, u "INT"), (0, .fieldref 8 29), (0, .nameAndType 30 21), (0, u "SHORT"), (0, .fieldref 8 32), (0, .nameAndType 33 21), (0, u "LONG"), (0, .fieldref 8 35), (0, .nameAndType 36 21), (0, u "DOUBLE"), (0, .fieldref 8 38), (0, .nameAndType 39 21), (0, u "LIST"), (0, .fieldref 8 41), (0, .nameAndType 42 21), (0, u "CLASS"), (0, .fieldref 8 44), (0, .nameAndType 45 21), (0, u "PASSWORD"), (0, .fieldref 8 47), (0, .nameAndType 48 21), (0, u "UNKNOWN"), (2, u "law"), (0, u "(I)Z")] 3

def k1m0 : Method := { name := "<init>", desc := "()V", sig := { parameters := [], returnType := none }, accessFlags := 2, code := none }
def k1c1 : Code := { maxStack := 2, maxLocals := 3, code := code, exceptionTable := #[], attributes := #[] }
def k1m1 : Method := { name := "law", desc := "(I)Z", sig := { parameters := [.int], returnType := some .boolean }, accessFlags := 9, code := some k1c1 }
def k1c2 : Code := { maxStack := 2, maxLocals := 1, code := method_3_code, exceptionTable := #[], attributes := #[] }
def k1m2 : Method := { name := "expected", desc := "(B)Lcom/example/moffett/moffett/catalogue/ConfigType;", sig := { parameters := [.byte], returnType := some (.object "com/example/moffett/moffett/catalogue/ConfigType") }, accessFlags := 10, code := some k1c2 }
/-- com/example/moffett/moffett/catalogue/ConfigTypeOfPinLaw -/
def k1 : Class := { plain "com/example/moffett/moffett/catalogue/ConfigTypeOfPinLaw" (some 0) with
  accessFlags := 49
  interfaces := #[]
  cf := some (fileOf pool1 14 #[] #[{ accessFlags := 2, nameIndex := 5, descriptorIndex := 6, attributes := #[] }, { accessFlags := 9, nameIndex := 51, descriptorIndex := 52, attributes := #[] }, { accessFlags := 10, nameIndex := 17, descriptorIndex := 12, attributes := #[] }] 49 2 #[] #[])
  fields := #[]
  methods := #[k1m0, k1m1, k1m2]
  instanceTypes := #[]
  staticTypes := #[]
  resolved := Array.replicate 56 none
  statics := none }

def pool2 : Array CpInfo := pool [(1, .class_ 2), (0, u "java/lang/constant/Constable"), (0, .class_ 4), (0, u "java/lang/Object")] 6

/-- java/lang/constant/Constable -/
def k2 : Class := { plain "java/lang/constant/Constable" (some 0) with
  accessFlags := 1537
  interfaces := #[]
  cf := some (fileOf pool2 1 #[] #[] 1537 3 #[] #[])
  fields := #[]
  methods := #[]
  instanceTypes := #[]
  staticTypes := #[]
  resolved := Array.replicate 11 none
  statics := none }

def pool3 : Array CpInfo := pool [(1, .class_ 2), (0, u "java/lang/Comparable"), (0, .class_ 4), (0, u "java/lang/Object")] 7

/-- java/lang/Comparable -/
def k3 : Class := { plain "java/lang/Comparable" (some 0) with
  accessFlags := 1537
  interfaces := #[]
  cf := some (fileOf pool3 1 #[] #[] 1537 3 #[] #[])
  fields := #[]
  methods := #[]
  instanceTypes := #[]
  staticTypes := #[]
  resolved := Array.replicate 12 none
  statics := none }

def pool4 : Array CpInfo := pool [(1, .class_ 2), (0, u "java/io/Serializable"), (0, .class_ 4), (0, u "java/lang/Object")] 2

/-- java/io/Serializable -/
def k4 : Class := { plain "java/io/Serializable" (some 0) with
  accessFlags := 1537
  interfaces := #[]
  cf := some (fileOf pool4 1 #[] #[] 1537 3 #[] #[])
  fields := #[]
  methods := #[]
  instanceTypes := #[]
  staticTypes := #[]
  resolved := Array.replicate 7 none
  statics := none }

def pool5 : Array CpInfo := pool [(2, .class_ 4), (1, u "java/lang/Enum"), (0, u "name"), (0, u "Ljava/lang/String;"), (2, u "ordinal"), (0, u "I"), (1, .class_ 14), (1, u "java/lang/Object"), (4, u "hash"), (86, .class_ 108), (1, u "java/lang/Enum$EnumDesc"), (2, .class_ 112), (0, u "java/lang/constant/Constable"), (0, .class_ 114), (0, u "java/lang/Comparable"), (0, .class_ 116), (0, u "java/io/Serializable")] 87

/-- java/lang/Enum -/
def k5 : Class := { plain "java/lang/Enum" (some 0) with
  accessFlags := 1057
  interfaces := #[2, 3, 4]
  cf := some (fileOf pool5 2 #[.nestMembers #[106]] #[] 1057 12 #[111, 113, 115] #[{ accessFlags := 18, nameIndex := 5, descriptorIndex := 6, attributes := #[] }, { accessFlags := 18, nameIndex := 9, descriptorIndex := 10, attributes := #[] }, { accessFlags := 2, nameIndex := 19, descriptorIndex := 10, attributes := #[] }])
  fields := #[{ name := "name", type := (.object "java/lang/String"), accessFlags := 18, slot := 0, constantValue := 0 }, { name := "ordinal", type := .int, accessFlags := 18, slot := 1, constantValue := 0 }, { name := "hash", type := .int, accessFlags := 2, slot := 2, constantValue := 0 }]
  methods := #[]
  instanceTypes := #[(.object "java/lang/String"), .int, .int]
  staticTypes := #[]
  resolved := Array.replicate 204 none
  statics := none }

def pool6 : Array CpInfo := pool [(1, .class_ 2), (0, u "com/example/moffett/moffett/catalogue/ConfigType"), (0, .fieldref 1 4), (0, .nameAndType 5 6), (0, u "UNKNOWN"), (0, u "Lcom/example/moffett/moffett/catalogue/ConfigType;"), (2, u "BOOLEAN"), (2, u "STRING"), (2, u "INT"), (2, u "SHORT"), (2, u "LONG"), (2, u "DOUBLE"), (2, u "LIST"), (2, u "CLASS"), (2, u "PASSWORD"), (0, .fieldref 1 35), (0, .nameAndType 36 37), (0, u "$VALUES"), (0, u "[Lcom/example/moffett/moffett/catalogue/ConfigType;"), (0, .methodref 39 40), (0, .class_ 37), (0, .nameAndType 41 42), (0, u "clone"), (0, u "()Ljava/lang/Object;"), (1, .class_ 46), (1, u "java/lang/Enum"), (6, .fieldref 1 54), (0, .nameAndType 55 56), (0, u "id"), (0, u "B"), (0, .methodref 1 58), (0, .nameAndType 59 60), (0, u "values"), (0, u "()[Lcom/example/moffett/moffett/catalogue/ConfigType;"), (55, u "of"), (51, u "BOOLEAN_VALUE"), (0, u "Ljava/util/regex/Pattern;"), (30, u "WHOLE_NUMBER"), (20, u "FLOATING_POINT_NUMBER"), (61, u "(B)Lcom/example/moffett/moffett/catalogue/ConfigType;")] 30

def k6c0 : Code := { maxStack := 1, maxLocals := 0, code := prog_4_method_1_code, exceptionTable := #[], attributes := #[] }
def k6m0 : Method := { name := "values", desc := "()[Lcom/example/moffett/moffett/catalogue/ConfigType;", sig := { parameters := [], returnType := some (.array (.object "com/example/moffett/moffett/catalogue/ConfigType")) }, accessFlags := 9, code := some k6c0 }
def k6c1 : Code := { maxStack := 2, maxLocals := 5, code := prog_4_method_5_code, exceptionTable := #[], attributes := #[] }
def k6m1 : Method := { name := "of", desc := "(B)Lcom/example/moffett/moffett/catalogue/ConfigType;", sig := { parameters := [.byte], returnType := some (.object "com/example/moffett/moffett/catalogue/ConfigType") }, accessFlags := 9, code := some k6c1 }
/-- com/example/moffett/moffett/catalogue/ConfigType -/
def k6 : Class := { plain "com/example/moffett/moffett/catalogue/ConfigType" (some 5) with
  accessFlags := 16433
  interfaces := #[]
  cf := some (fileOf pool6 1 #[] #[{ accessFlags := 9, nameIndex := 59, descriptorIndex := 60, attributes := #[] }, { accessFlags := 9, nameIndex := 116, descriptorIndex := 283, attributes := #[] }] 16433 44 #[] #[{ accessFlags := 16409, nameIndex := 5, descriptorIndex := 6, attributes := #[] }, { accessFlags := 16409, nameIndex := 9, descriptorIndex := 6, attributes := #[] }, { accessFlags := 16409, nameIndex := 12, descriptorIndex := 6, attributes := #[] }, { accessFlags := 16409, nameIndex := 15, descriptorIndex := 6, attributes := #[] }, { accessFlags := 16409, nameIndex := 18, descriptorIndex := 6, attributes := #[] }, { accessFlags := 16409, nameIndex := 21, descriptorIndex := 6, attributes := #[] }, { accessFlags := 16409, nameIndex := 24, descriptorIndex := 6, attributes := #[] }, { accessFlags := 16409, nameIndex := 27, descriptorIndex := 6, attributes := #[] }, { accessFlags := 16409, nameIndex := 30, descriptorIndex := 6, attributes := #[] }, { accessFlags := 16409, nameIndex := 33, descriptorIndex := 6, attributes := #[] }, { accessFlags := 26, nameIndex := 168, descriptorIndex := 169, attributes := #[] }, { accessFlags := 26, nameIndex := 200, descriptorIndex := 169, attributes := #[] }, { accessFlags := 26, nameIndex := 221, descriptorIndex := 169, attributes := #[] }, { accessFlags := 18, nameIndex := 55, descriptorIndex := 56, attributes := #[] }, { accessFlags := 4122, nameIndex := 36, descriptorIndex := 37, attributes := #[] }])
  fields := #[{ name := "UNKNOWN", type := (.object "com/example/moffett/moffett/catalogue/ConfigType"), accessFlags := 16409, slot := 0, constantValue := 0 }, { name := "BOOLEAN", type := (.object "com/example/moffett/moffett/catalogue/ConfigType"), accessFlags := 16409, slot := 1, constantValue := 0 }, { name := "STRING", type := (.object "com/example/moffett/moffett/catalogue/ConfigType"), accessFlags := 16409, slot := 2, constantValue := 0 }, { name := "INT", type := (.object "com/example/moffett/moffett/catalogue/ConfigType"), accessFlags := 16409, slot := 3, constantValue := 0 }, { name := "SHORT", type := (.object "com/example/moffett/moffett/catalogue/ConfigType"), accessFlags := 16409, slot := 4, constantValue := 0 }, { name := "LONG", type := (.object "com/example/moffett/moffett/catalogue/ConfigType"), accessFlags := 16409, slot := 5, constantValue := 0 }, { name := "DOUBLE", type := (.object "com/example/moffett/moffett/catalogue/ConfigType"), accessFlags := 16409, slot := 6, constantValue := 0 }, { name := "LIST", type := (.object "com/example/moffett/moffett/catalogue/ConfigType"), accessFlags := 16409, slot := 7, constantValue := 0 }, { name := "CLASS", type := (.object "com/example/moffett/moffett/catalogue/ConfigType"), accessFlags := 16409, slot := 8, constantValue := 0 }, { name := "PASSWORD", type := (.object "com/example/moffett/moffett/catalogue/ConfigType"), accessFlags := 16409, slot := 9, constantValue := 0 }, { name := "BOOLEAN_VALUE", type := (.object "java/util/regex/Pattern"), accessFlags := 26, slot := 10, constantValue := 0 }, { name := "WHOLE_NUMBER", type := (.object "java/util/regex/Pattern"), accessFlags := 26, slot := 11, constantValue := 0 }, { name := "FLOATING_POINT_NUMBER", type := (.object "java/util/regex/Pattern"), accessFlags := 26, slot := 12, constantValue := 0 }, { name := "id", type := .byte, accessFlags := 18, slot := 3, constantValue := 0 }, { name := "$VALUES", type := (.array (.object "com/example/moffett/moffett/catalogue/ConfigType")), accessFlags := 4122, slot := 13, constantValue := 0 }]
  methods := #[k6m0, k6m1]
  instanceTypes := #[(.object "java/lang/String"), .int, .int, .byte]
  staticTypes := #[(.object "com/example/moffett/moffett/catalogue/ConfigType"), (.object "com/example/moffett/moffett/catalogue/ConfigType"), (.object "com/example/moffett/moffett/catalogue/ConfigType"), (.object "com/example/moffett/moffett/catalogue/ConfigType"), (.object "com/example/moffett/moffett/catalogue/ConfigType"), (.object "com/example/moffett/moffett/catalogue/ConfigType"), (.object "com/example/moffett/moffett/catalogue/ConfigType"), (.object "com/example/moffett/moffett/catalogue/ConfigType"), (.object "com/example/moffett/moffett/catalogue/ConfigType"), (.object "com/example/moffett/moffett/catalogue/ConfigType"), (.object "java/util/regex/Pattern"), (.object "java/util/regex/Pattern"), (.object "java/util/regex/Pattern"), (.array (.object "com/example/moffett/moffett/catalogue/ConfigType"))]
  resolved := Array.replicate 314 none
  statics := some 0 }

def pool7 : Array CpInfo := pool [(1, .class_ 2), (0, u "java/lang/Cloneable"), (0, .class_ 4), (0, u "java/lang/Object")] 2

/-- java/lang/Cloneable -/
def k7 : Class := { plain "java/lang/Cloneable" (some 0) with
  accessFlags := 1537
  interfaces := #[]
  cf := some (fileOf pool7 1 #[] #[] 1537 3 #[] #[])
  fields := #[]
  methods := #[]
  instanceTypes := #[]
  staticTypes := #[]
  resolved := Array.replicate 7 none
  statics := none }

/-- the primitive byte -/
def k8 : Class := { plain "byte" none with kind := .primitive 'B', accessFlags := 0x411 }
/-- [B -/
def k9 : Class := { plain "[B" (some 0) with kind := .array 8 .byte, interfaces := #[7, 4], accessFlags := 1041 }

/-- the primitive int -/
def k10 : Class := { plain "int" none with kind := .primitive 'I', accessFlags := 0x411 }
/-- [I -/
def k11 : Class := { plain "[I" (some 0) with kind := .array 10 .int, interfaces := #[7, 4], accessFlags := 1041 }

/-- [Lcom/example/moffett/moffett/catalogue/ConfigType; -/
def k12 : Class := { plain "[Lcom/example/moffett/moffett/catalogue/ConfigType;" (some 0) with kind := .array 6 (.object "com/example/moffett/moffett/catalogue/ConfigType"), interfaces := #[7, 4], accessFlags := 1041 }

def heap : Heap := #[{ cls := 6, slots := #[.ref 2, .ref 3, .ref 4, .ref 5, .ref 6, .ref 7, .ref 8, .ref 9, .ref 10, .ref 11, .null, .null, .null, .ref 1], vm := .statics 6 },
  { cls := 12, slots := #[.ref 2, .ref 3, .ref 4, .ref 5, .ref 6, .ref 7, .ref 8, .ref 9, .ref 10, .ref 11], vm := .none },
  { cls := 6, slots := #[.null, .int 0, .int 0, .int 0], vm := .none },
  { cls := 6, slots := #[.null, .int 1, .int 0, .int 1], vm := .none },
  { cls := 6, slots := #[.null, .int 2, .int 0, .int 2], vm := .none },
  { cls := 6, slots := #[.null, .int 3, .int 0, .int 3], vm := .none },
  { cls := 6, slots := #[.null, .int 4, .int 0, .int 4], vm := .none },
  { cls := 6, slots := #[.null, .int 5, .int 0, .int 5], vm := .none },
  { cls := 6, slots := #[.null, .int 6, .int 0, .int 6], vm := .none },
  { cls := 6, slots := #[.null, .int 7, .int 0, .int 7], vm := .none },
  { cls := 6, slots := #[.null, .int 8, .int 0, .int 8], vm := .none },
  { cls := 6, slots := #[.null, .int 9, .int 0, .int 9], vm := .none }]
def classes : Array Class := #[k0, k1, k2, k3, k4, k5, k6, k7, k8, k9, k10, k11, k12]
def interned : List (Array UInt16 × Addr) := []
def slotsUsed : Nat := 64
def theMethod : MethodId := ⟨1, 1⟩
def args0 : Array Value := #[.int 3]
def aboutOver (below : List Frame) : State where
  vm := { classes := classes, interned := interned.toArray }
  heap := heap
  slotsUsed := slotsUsed
  threads := #[{ frames := .invoking theMethod args0 :: below }]
def below0 : List Frame := [.native { method := ⟨0, 0⟩, args := #[] }]
def about1 : State := aboutOver below0
def p0 : Program := .bare "" "" ""
def e0 : Env := launch0.env 0 0 0
theorem w_frames : about1.frames = Frame.invoking theMethod args0 :: below0 := rfl
set_option maxRecDepth 65536 in
theorem w_args : argsFit about1.vm theMethod args0 = true := by decide +kernel
set_option maxRecDepth 65536 in
theorem w_heap : heapFits about1 = true := by decide +kernel
set_option maxRecDepth 65536 in
theorem w_runnable : about1.curStatus? = some .runnable := by decide +kernel
set_option maxRecDepth 65536 in
theorem w_alone : about1.alone = true := by decide +kernel
set_option maxRecDepth 65536 in
theorem w_named : about1.methodNamed? x = some theMethod := by decide +kernel
set_option maxRecDepth 65536 in
theorem w_hears : about1.hears theMethod below0 = true := by decide +kernel
set_option maxRecDepth 65536 in
theorem w_ripe : about1.ripe theMethod args0 below0 = true := by decide +kernel
theorem w_running : about1.status = .running := rfl
set_option maxRecDepth 65536 in
theorem w_room : about1.hasRoom e0.platform room_1 = true :=
  launch0.hasRoom_least _ room_1 (by decide +kernel) (by decide +kernel) (by decide +kernel) (by decide +kernel) (by decide +kernel) (by decide +kernel)
theorem allAtoms_all (ts : List Jvm.Cond) (a : Array Jvm.Value) (st : Jvm.State) : (allAtoms ts).before a st = ts.all (fun c => c.before a st) := by
  induction ts with
  | nil => rfl
  | cons c t ih =>
    show (Jvm.Cond.and c (allAtoms t)).before a st = _
    rw [Jvm.Cond.before_and, ih, List.all_cons]
def words1 : List Jvm.Cond := Jvm.Cond.code x code maxLocals ret :: tables_1
/-- a 'code' word, met by the world's own term for the bytes: nothing is compared byte by byte -/
theorem code_word {y : MethodName} {bytes : ByteArray} {mx : Nat} {rt : Option FieldType} {a : Array Value} {s : State} {m : MethodId} {meth : Method} {c : Code} (h1 : s.methodNamed? y = some m) (h2 : s.vm.method? m = some meth) (h3 : meth.code = some c) (h4 : c.code = bytes)
    (h5 : (c.maxLocals == mx && c.exceptionTable.isEmpty && decide (c.maxStack ≤ mostOperands) && decide (meth.sig.returnType = rt) && !meth.locks && decide (parseMethodDescriptor y.desc = some meth.sig)) = true) : (Jvm.Cond.code y bytes mx rt).before a s = true := by
  simp only [Bool.and_eq_true, beq_iff_eq, Bool.not_eq_true', decide_eq_true_eq] at h5
  obtain ⟨⟨⟨⟨⟨g1, g2⟩, g3⟩, g4⟩, g5⟩, g6⟩ := h5
  simp [Cond.before, Cond.holds, Cond.value, h1, h2, h3, h4, g1, g2, g3, g4, g5, g6]
def isCode : Jvm.Cond → Bool
  | .code _ _ _ _ => true
  | _ => false
theorem all_split {L : List Jvm.Cond} {P : Jvm.Cond → Bool} (h1 : L.all (fun c => isCode c || P c) = true) (h2 : ∀ c ∈ L.filter isCode, P c = true) : L.all P = true := by
  refine List.all_eq_true.mpr fun c hc => ?_
  have h := List.all_eq_true.mp h1 c hc
  rcases Bool.eq_false_or_eq_true (isCode c) with hi | hi
  · exact h2 c (List.mem_filter.mpr ⟨hc, hi⟩)
  · simpa [hi] using h
set_option maxRecDepth 65536 in
theorem w_c0 : (Jvm.Cond.code x code maxLocals ret).before args0 about1 = true := code_word (m := ⟨1, 1⟩) (meth := k1m1) (c := k1c1) (by decide +kernel) rfl rfl rfl (by decide +kernel)
set_option maxRecDepth 65536 in
theorem w_c1 : (Jvm.Cond.code ({ cls := "com/example/moffett/moffett/catalogue/ConfigType", name := "of", desc := "(B)Lcom/example/moffett/moffett/catalogue/ConfigType;" } : Jvm.MethodName) prog_4_method_5_code (5 : Nat) (Option.some (Jvm.ClassFile.FieldType.object "com/example/moffett/moffett/catalogue/ConfigType"))).before args0 about1 = true := code_word (m := ⟨6, 1⟩) (meth := k6m1) (c := k6c1) (by decide +kernel) rfl rfl rfl (by decide +kernel)
set_option maxRecDepth 65536 in
theorem w_c2 : (Jvm.Cond.code ({ cls := "com/example/moffett/moffett/catalogue/ConfigType", name := "values", desc := "()[Lcom/example/moffett/moffett/catalogue/ConfigType;" } : Jvm.MethodName) prog_4_method_1_code (0 : Nat) (Option.some (Jvm.ClassFile.FieldType.array (Jvm.ClassFile.FieldType.object "com/example/moffett/moffett/catalogue/ConfigType")))).before args0 about1 = true := code_word (m := ⟨6, 0⟩) (meth := k6m0) (c := k6c0) (by decide +kernel) rfl rfl rfl (by decide +kernel)
set_option maxRecDepth 65536 in
theorem w_c3 : (Jvm.Cond.code ({ cls := "com/example/moffett/moffett/catalogue/ConfigTypeOfPinLaw", name := "expected", desc := "(B)Lcom/example/moffett/moffett/catalogue/ConfigType;" } : Jvm.MethodName) method_3_code (1 : Nat) (Option.some (Jvm.ClassFile.FieldType.object "com/example/moffett/moffett/catalogue/ConfigType"))).before args0 about1 = true := code_word (m := ⟨1, 2⟩) (meth := k1m2) (c := k1c2) (by decide +kernel) rfl rfl rfl (by decide +kernel)
def codes1 : List Jvm.Cond := [Jvm.Cond.code x code maxLocals ret, Jvm.Cond.code ({ cls := "com/example/moffett/moffett/catalogue/ConfigType", name := "of", desc := "(B)Lcom/example/moffett/moffett/catalogue/ConfigType;" } : Jvm.MethodName) prog_4_method_5_code (5 : Nat) (Option.some (Jvm.ClassFile.FieldType.object "com/example/moffett/moffett/catalogue/ConfigType")), Jvm.Cond.code ({ cls := "com/example/moffett/moffett/catalogue/ConfigType", name := "values", desc := "()[Lcom/example/moffett/moffett/catalogue/ConfigType;" } : Jvm.MethodName) prog_4_method_1_code (0 : Nat) (Option.some (Jvm.ClassFile.FieldType.array (Jvm.ClassFile.FieldType.object "com/example/moffett/moffett/catalogue/ConfigType"))), Jvm.Cond.code ({ cls := "com/example/moffett/moffett/catalogue/ConfigTypeOfPinLaw", name := "expected", desc := "(B)Lcom/example/moffett/moffett/catalogue/ConfigType;" } : Jvm.MethodName) method_3_code (1 : Nat) (Option.some (Jvm.ClassFile.FieldType.object "com/example/moffett/moffett/catalogue/ConfigType"))]
set_option maxRecDepth 65536 in
theorem codes_eq : words1.filter isCode = codes1 := rfl
theorem w_codes : ∀ c ∈ words1.filter isCode, c.before args0 about1 = true := by
  rw [codes_eq]
  intro c hc
  simp only [codes1, List.mem_cons, List.not_mem_nil, or_false] at hc
  rcases hc with rfl | rfl | rfl | rfl
  · exact w_c0
  · exact w_c1
  · exact w_c2
  · exact w_c3
set_option maxRecDepth 65536 in
theorem w_t1 : (words1.take 24).all (fun c => isCode c || c.before args0 about1) = true := by decide +kernel
set_option maxRecDepth 65536 in
theorem w_t2 : (words1.drop 24).all (fun c => isCode c || c.before args0 about1) = true := by decide +kernel
theorem w_tables : (allAtoms (Jvm.Cond.code x code maxLocals ret :: tables_1)).before args0 about1 = true := by
  rw [allAtoms_all]
  show words1.all (fun c => c.before args0 about1) = true
  refine all_split ?_ w_codes
  rw [← List.take_append_drop 24 words1, List.all_append, w_t1, w_t2]
  rfl
set_option maxRecDepth 65536 in
theorem w_case : (Jvm.Cond.and given_1 narrow_1).before args0 about1 = true := by decide +kernel
theorem w_applies : (headSpec (Jvm.Cond.code x code maxLocals ret :: tables_1) room_1).applies x e0.platform about1 = true :=
  (Spec.applies_iff w_frames).mpr ⟨w_running, w_runnable, w_alone, w_named, w_hears, w_ripe, w_room, w_tables⟩
theorem atStart : AtStart classFile x code maxLocals ret World_1 tables_1 room_1 Calls_1 rest_1 Pre_1 launch0 p0 e0 about1 theMethod args0 below0 :=
  ⟨lists_1, trivial, launch0.admits_env _ _ _, launch0.least_env, fairChoices_fair.cas, fairChoices_fair.clock, w_frames, w_args, w_heap, w_applies, trivial, trivial, w_case⟩
end start1
theorem witness_1 : WitnessClaimed_1 := ⟨start1.p0, start1.e0, start1.about1, start1.theMethod, start1.args0, start1.below0, start1.atStart⟩
end Jvm.Pilot.@@N@@
