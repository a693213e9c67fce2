import JvmDerived
import JvmDerived.Pilot.@@N@@Statement
import JvmDerived.Pilot.@@N@@Code
set_option linter.unusedVariables false
set_option linter.unusedSimpArgs false
namespace Jvm.RoadKit
open Sem ClassFile Op Lib Jvm.Stand Jvm.Free Jvm.LawKit
section New
variable {p : Program} {l : Launch} {e : Env} {R : Room} {s : State} {m : MethodId} {args : Array Value} {below : List Frame} {meth : Method} {c : Code} {T : State} {locs : List Loc} {cells slots : Nat}
theorem retI (X : Stand p l e R s m args below meth c T locs cells slots) (hx : p.tables.exec = Jvm.exec) {pc : Nat} {Ls : Array Slot} {z : Int32} {rest : List Value} (hret : meth.sig.returnType = some .int) (hd : decode c.code pc = .ok (.ireturn, 1)) {fs : List Frame}
    (hl : ∀ (f : JFrame) (acts : List Action), f.method = m → f.locked = none → f.entered = [] → (doReturn e (T.setTop f) acts (some (.int z))).1 = T.setFrames fs) : Steps p.tables e below (T.setTop (mkF m pc Ls (.int z :: rest))) (T.setFrames fs) := by
  have hm' : T.vm.method? m = some meth := X.method'
  have hn : narrow .int (.int z) = .int z := rfl
  show Steps p.tables e below (T.setTop { method := m, pc := pc, locals := Ls, stack := _ :: rest, locked := none }) _
  jvm_step X.here [X.here.top, hx, hd, hm', hret, hn]
  first | (intro acts; rw [hl _ acts rfl rfl rfl]) | rw [hl _ _ rfl rfl rfl]
  exact Steps.refl _
end New
end Jvm.RoadKit
namespace Jvm.Pilot.@@N@@
open Jvm Jvm.ClassFile Sem Op Lib Jvm.Free Jvm.Stand Jvm.LawKit Jvm.RoadKit Bundle Jvm.Pilot.@@N@@.Jvm.D
theorem own_e (k : Int32) : True := trivial
theorem own_step {j : Int32} {k : Int} (h : 0 ≤ j.toInt ∧ j.toInt ≤ k) (hk : k < 100) : 0 ≤ (j + (1 : Int32)).toInt ∧ (j + (1 : Int32)).toInt ≤ k + 1 := by
  have q := c_iadd j 1
  have r := rng32 (j + 1)
  have e1 : (1 : Int32).toInt = 1 := by decide
  rw [e1] at q
  omega
theorem own_inb {j : Int32} {k : Int} (h : 0 ≤ j.toInt ∧ j.toInt ≤ k) (hk : k ≤ 9) : ¬ j < 0 ∧ j < (10 : Int32) := by
  have e0 : (0 : Int32).toInt = 0 := by decide
  have e1 : (10 : Int32).toInt = 10 := by decide
  rw [Int32.lt_iff_toInt_lt, Int32.lt_iff_toInt_lt, e0, e1]
  omega
theorem own_ix {j : Int32} (h : ¬ j < 0 ∧ j < (10 : Int32)) : j.toNatClampNeg < 10 := by
  have e0 : (0 : Int32).toInt = 0 := by decide
  have e1 : (10 : Int32).toInt = 10 := by decide
  rw [Int32.lt_iff_toInt_lt, Int32.lt_iff_toInt_lt, e0, e1] at h
  have q : j.toNatClampNeg = j.toInt.toNat := rfl
  omega
theorem d1_0 : decode prog_18_method_2_code 0 = .ok (.iload_n 1, 1) := by decide +kernel
theorem d1_1 : decode prog_18_method_2_code 1 = .ok (.istore_n 3, 1) := by decide +kernel
theorem d1_2 : decode prog_18_method_2_code 2 = .ok (.iload_n 2, 1) := by decide +kernel
theorem d1_3 : decode prog_18_method_2_code 3 = .ok (.istore 4, 2) := by decide +kernel
theorem d1_5 : decode prog_18_method_2_code 5 = .ok (.iload 4, 2) := by decide +kernel
theorem d1_7 : decode prog_18_method_2_code 7 = .ok (.bipush 127, 2) := by decide +kernel
theorem d1_9 : decode prog_18_method_2_code 9 = .ok (.if_icmp .le 29, 3) := by decide +kernel
theorem d1_12 : decode prog_18_method_2_code 12 = .ok (.aload_n 0, 1) := by decide +kernel
theorem d1_13 : decode prog_18_method_2_code 13 = .ok (.iload_n 3, 1) := by decide +kernel
theorem d1_14 : decode prog_18_method_2_code 14 = .ok (.iinc 3 1, 3) := by decide +kernel
theorem d1_17 : decode prog_18_method_2_code 17 = .ok (.iload 4, 2) := by decide +kernel
theorem d1_19 : decode prog_18_method_2_code 19 = .ok (.bipush 127, 2) := by decide +kernel
theorem d1_21 : decode prog_18_method_2_code 21 = .ok (.iand, 1) := by decide +kernel
theorem d1_22 : decode prog_18_method_2_code 22 = .ok (.sipush 128, 3) := by decide +kernel
theorem d1_25 : decode prog_18_method_2_code 25 = .ok (.ior, 1) := by decide +kernel
theorem d1_26 : decode prog_18_method_2_code 26 = .ok (.i2b, 1) := by decide +kernel
theorem d1_27 : decode prog_18_method_2_code 27 = .ok (.bastore, 1) := by decide +kernel
theorem d1_28 : decode prog_18_method_2_code 28 = .ok (.iload 4, 2) := by decide +kernel
theorem d1_30 : decode prog_18_method_2_code 30 = .ok (.bipush 7, 2) := by decide +kernel
theorem d1_32 : decode prog_18_method_2_code 32 = .ok (.iushr, 1) := by decide +kernel
theorem d1_33 : decode prog_18_method_2_code 33 = .ok (.istore 4, 2) := by decide +kernel
theorem d1_35 : decode prog_18_method_2_code 35 = .ok (.goto (-30), 3) := by decide +kernel
theorem own_v4 (p2 : Int32) : ¬ ((127 : Int32) < ((((((((p2.toUInt32 >>> ((7 : Int32) &&& 31).toUInt32).toInt32).toUInt32 >>> ((7 : Int32) &&& 31).toUInt32).toInt32).toUInt32 >>> ((7 : Int32) &&& 31).toUInt32).toInt32).toUInt32 >>> ((7 : Int32) &&& 31).toUInt32).toInt32)) := by
  have a1 := c_iushr p2 7 7 (by decide) (by decide)
  have a2 := c_iushr ((p2.toUInt32 >>> ((7 : Int32) &&& 31).toUInt32).toInt32) 7 7 (by decide) (by decide)
  have a3 := c_iushr ((((p2.toUInt32 >>> ((7 : Int32) &&& 31).toUInt32).toInt32).toUInt32 >>> ((7 : Int32) &&& 31).toUInt32).toInt32) 7 7 (by decide) (by decide)
  have a4 := c_iushr ((((((p2.toUInt32 >>> ((7 : Int32) &&& 31).toUInt32).toInt32).toUInt32 >>> ((7 : Int32) &&& 31).toUInt32).toInt32).toUInt32 >>> ((7 : Int32) &&& 31).toUInt32).toInt32) 7 7 (by decide) (by decide)
  have e1 : (127 : Int32).toInt = 127 := by decide
  rw [Int32.lt_iff_toInt_lt, a4, a3, a2, a1, e1]
  omega
theorem d1_38 : decode prog_18_method_2_code 38 = .ok (.aload_n 0, 1) := by decide +kernel
theorem d1_39 : decode prog_18_method_2_code 39 = .ok (.iload_n 3, 1) := by decide +kernel
theorem d1_40 : decode prog_18_method_2_code 40 = .ok (.iinc 3 1, 3) := by decide +kernel
theorem d1_43 : decode prog_18_method_2_code 43 = .ok (.iload 4, 2) := by decide +kernel
theorem d1_45 : decode prog_18_method_2_code 45 = .ok (.i2b, 1) := by decide +kernel
theorem d1_46 : decode prog_18_method_2_code 46 = .ok (.bastore, 1) := by decide +kernel
theorem d1_47 : decode prog_18_method_2_code 47 = .ok (.iload_n 3, 1) := by decide +kernel
theorem d1_48 : decode prog_18_method_2_code 48 = .ok (.ireturn, 1) := by decide +kernel
def f1 (p1 p2 : Int32) : Int32 := if (127 : Int32) < p2 then (if (127 : Int32) < ((p2.toUInt32 >>> ((7 : Int32) &&& 31).toUInt32).toInt32) then (if (127 : Int32) < ((((p2.toUInt32 >>> ((7 : Int32) &&& 31).toUInt32).toInt32).toUInt32 >>> ((7 : Int32) &&& 31).toUInt32).toInt32) then (if (127 : Int32) < ((((((p2.toUInt32 >>> ((7 : Int32) &&& 31).toUInt32).toInt32).toUInt32 >>> ((7 : Int32) &&& 31).toUInt32).toInt32).toUInt32 >>> ((7 : Int32) &&& 31).toUInt32).toInt32) then ((((((p1 + (1 : Int32)) + (1 : Int32)) + (1 : Int32)) + (1 : Int32)) + (1 : Int32))) else (((((p1 + (1 : Int32)) + (1 : Int32)) + (1 : Int32)) + (1 : Int32)))) else ((((p1 + (1 : Int32)) + (1 : Int32)) + (1 : Int32)))) else (((p1 + (1 : Int32)) + (1 : Int32)))) else ((p1 + (1 : Int32)))
def fput (vs : List Value) (p1 p2 : Int32) : List Value := if (127 : Int32) < p2 then (if (127 : Int32) < ((p2.toUInt32 >>> ((7 : Int32) &&& 31).toUInt32).toInt32) then (if (127 : Int32) < ((((p2.toUInt32 >>> ((7 : Int32) &&& 31).toUInt32).toInt32).toUInt32 >>> ((7 : Int32) &&& 31).toUInt32).toInt32) then (if (127 : Int32) < ((((((p2.toUInt32 >>> ((7 : Int32) &&& 31).toUInt32).toInt32).toUInt32 >>> ((7 : Int32) &&& 31).toUInt32).toInt32).toUInt32 >>> ((7 : Int32) &&& 31).toUInt32).toInt32) then ((((((vs.set (p1).toNatClampNeg (.int (nar .byte (((p2 &&& (127 : Int32)) ||| (128 : Int32)).toInt8.toInt32)))).set ((p1 + (1 : Int32))).toNatClampNeg (.int (nar .byte (((((p2.toUInt32 >>> ((7 : Int32) &&& 31).toUInt32).toInt32) &&& (127 : Int32)) ||| (128 : Int32)).toInt8.toInt32)))).set (((p1 + (1 : Int32)) + (1 : Int32))).toNatClampNeg (.int (nar .byte (((((((p2.toUInt32 >>> ((7 : Int32) &&& 31).toUInt32).toInt32).toUInt32 >>> ((7 : Int32) &&& 31).toUInt32).toInt32) &&& (127 : Int32)) ||| (128 : Int32)).toInt8.toInt32)))).set ((((p1 + (1 : Int32)) + (1 : Int32)) + (1 : Int32))).toNatClampNeg (.int (nar .byte (((((((((p2.toUInt32 >>> ((7 : Int32) &&& 31).toUInt32).toInt32).toUInt32 >>> ((7 : Int32) &&& 31).toUInt32).toInt32).toUInt32 >>> ((7 : Int32) &&& 31).toUInt32).toInt32) &&& (127 : Int32)) ||| (128 : Int32)).toInt8.toInt32)))).set (((((p1 + (1 : Int32)) + (1 : Int32)) + (1 : Int32)) + (1 : Int32))).toNatClampNeg (.int (nar .byte (((((((((p2.toUInt32 >>> ((7 : Int32) &&& 31).toUInt32).toInt32).toUInt32 >>> ((7 : Int32) &&& 31).toUInt32).toInt32).toUInt32 >>> ((7 : Int32) &&& 31).toUInt32).toInt32).toUInt32 >>> ((7 : Int32) &&& 31).toUInt32).toInt32).toInt8.toInt32))))) else (((((vs.set (p1).toNatClampNeg (.int (nar .byte (((p2 &&& (127 : Int32)) ||| (128 : Int32)).toInt8.toInt32)))).set ((p1 + (1 : Int32))).toNatClampNeg (.int (nar .byte (((((p2.toUInt32 >>> ((7 : Int32) &&& 31).toUInt32).toInt32) &&& (127 : Int32)) ||| (128 : Int32)).toInt8.toInt32)))).set (((p1 + (1 : Int32)) + (1 : Int32))).toNatClampNeg (.int (nar .byte (((((((p2.toUInt32 >>> ((7 : Int32) &&& 31).toUInt32).toInt32).toUInt32 >>> ((7 : Int32) &&& 31).toUInt32).toInt32) &&& (127 : Int32)) ||| (128 : Int32)).toInt8.toInt32)))).set ((((p1 + (1 : Int32)) + (1 : Int32)) + (1 : Int32))).toNatClampNeg (.int (nar .byte (((((((p2.toUInt32 >>> ((7 : Int32) &&& 31).toUInt32).toInt32).toUInt32 >>> ((7 : Int32) &&& 31).toUInt32).toInt32).toUInt32 >>> ((7 : Int32) &&& 31).toUInt32).toInt32).toInt8.toInt32)))))) else ((((vs.set (p1).toNatClampNeg (.int (nar .byte (((p2 &&& (127 : Int32)) ||| (128 : Int32)).toInt8.toInt32)))).set ((p1 + (1 : Int32))).toNatClampNeg (.int (nar .byte (((((p2.toUInt32 >>> ((7 : Int32) &&& 31).toUInt32).toInt32) &&& (127 : Int32)) ||| (128 : Int32)).toInt8.toInt32)))).set (((p1 + (1 : Int32)) + (1 : Int32))).toNatClampNeg (.int (nar .byte (((((p2.toUInt32 >>> ((7 : Int32) &&& 31).toUInt32).toInt32).toUInt32 >>> ((7 : Int32) &&& 31).toUInt32).toInt32).toInt8.toInt32)))))) else (((vs.set (p1).toNatClampNeg (.int (nar .byte (((p2 &&& (127 : Int32)) ||| (128 : Int32)).toInt8.toInt32)))).set ((p1 + (1 : Int32))).toNatClampNeg (.int (nar .byte (((p2.toUInt32 >>> ((7 : Int32) &&& 31).toUInt32).toInt32).toInt8.toInt32)))))) else ((vs.set (p1).toNatClampNeg (.int (nar .byte (p2.toInt8.toInt32)))))
def Q1 (Z : State) (r0 : Addr) (p1 : Int32) (p2 : Int32) (kk : ClassId) (vs : List Value) (h0 : Heap) (n0 : Nat) (v : Option Value) (h : Heap) (L : List Loc) : Prop := v = some (.int (f1 p1 p2)) ∧ Fr n0 L ∧ Keep h0 h [r0] ∧ Arv Z h r0 kk .byte (10 : Int32) (fput vs p1 p2) (.int (0 : Int32))
theorem ef_rm1 (m : MethodId) (x0 : Addr) (x1 : Int32) (x2 : Int32) : entryFrame m #[(.ref x0), (.int x1), (.int x2)] 5 = mkF m 0 #[.val (.ref x0), .val (.int x1), .val (.int x2), .unset, .unset] [] := by first | (simp [entryFrame, mkF, argsToLocals, Value.category]; done) | rfl
theorem pnc_com_example_degree_degree_index_Varint : plainName "com/example/degree/degree/index/Varint" = true := by first | (simp [plainName, overriddenIn]; done) | decide +kernel
set_option maxRecDepth 65536 in
set_option maxHeartbeats 40000000 in
theorem rm1 (l : Launch) (Z : State) (a0 : Array Value) (hw : ∀ d ∈ tables_1, d.before a0 Z = true) (ws : List Jvm.Cond) (r0 : Addr) (p1 : Int32) (p2 : Int32) (kk : ClassId) (vs : List Value) (h0 : Heap) (n0 : Nat) (Z0 : n0 ≤ h0.size) (AV : Arv Z h0 r0 kk .byte (10 : Int32) vs (.int (0 : Int32))) (hlen : vs.length = 10) (ha : 0 ≤ p1.toInt ∧ p1.toInt ≤ 3) (g_r0 : n0 ≤ r0) :
    MetFree l (⟨"com/example/degree/degree/index/Varint", "put", "([BII)I"⟩ : MethodName) (head1 (Jvm.Cond.code (⟨"com/example/degree/degree/index/Varint", "put", "([BII)I"⟩ : MethodName) prog_18_method_2_code 5 (some .int) :: ws) ({ frames := 0, cells := 0, slots := 0, locals := 0 } : Room)) (fun a U => a = #[(.ref r0), (.int p1), (.int p2)] ∧ Z.Warmed39 U.vm ∧ U.heap = h0) (fun _ _ _ _ _ => True) (fun _ U o U' => ∃ v L, o = .returned v ∧ Q1 Z r0 p1 p2 kk vs h0 n0 v U'.heap L ∧ FrameEnd U o U' L ({ frames := 0, cells := 0, slots := 0, locals := 0 } : Room).cells ({ frames := 0, cells := 0, slots := 0, locals := 0 } : Room).slots) := by
  refine MetFree.of_bodySF (plainFor_of_name pnc_com_example_degree_degree_index_Varint) hisR ?_
  intro p e s m args below meth c s₁ Bd hml0 hP hK
  obtain ⟨rfl, hZ, hh⟩ := hP
  have hx := Bd.exec
  have hby := Bd.bytes
  have hml : c.maxLocals = 5 := hml0
  have hown : s.vm.findClass "com/example/degree/degree/index/Varint" = some m.cls := findClass_of_methodNamed Bd.named
  have hnm := (name_of_methodNamed Bd.named Bd.method).1
  have X0 : Stand p l e ({ frames := 0, cells := 0, slots := 0, locals := 0 } : Room) s m #[(.ref r0), (.int p1), (.int p2)] below meth c s₁ [] 0 0 := Stand.of_body Bd
  have e0 : s₁.heap = h0 := by rw [← hh, Bd.state]; rfl
  have N0 := Fr.nil n0
  have kp0 : Keep h0 h0 [r0] := Keep.refl _ _
  have G0 : ∀ t, Steps p.tables e below (s₁.setTop (mkF m 0 #[.val (.ref r0), .val (.int p1), .val (.int p2), .unset, .unset] [])) t → Steps p.tables e below (s₁.setTop (entryFrame m #[(.ref r0), (.int p1), (.int p2)] 5)) t := fun t k => castTop (ef_rm1 m r0 p1 p2) k
  have b0 := ha
  have b1 := own_step b0 (by decide)
  have b2 := own_step b1 (by decide)
  have b3 := own_step b2 (by decide)
  have b4 := own_step b3 (by decide)
  have G1 : ∀ t, Steps p.tables e below (s₁.setTop (mkF m 9 #[.val (.ref r0), .val (.int p1), .val (.int p2), .val (.int p1), .val (.int p2)] [(.int (127 : Int32)), (.int p2)])) t → Steps p.tables e below (s₁.setTop (entryFrame m #[(.ref r0), (.int p1), (.int p2)] 5)) t := by
    intro t kt
    refine G0 _ ?_
    show Steps p.tables e below (s₁.setTop (mkF m 0 #[.val (.ref r0), .val (.int p1), .val (.int p2), .unset, .unset] [])) _
    refine XS.iloadN X0.here hx rfl (hb hby d1_0) rfl ?_
    show Steps p.tables e below (s₁.setTop (mkF m 1 #[.val (.ref r0), .val (.int p1), .val (.int p2), .unset, .unset] [(.int p1)])) _
    refine XS.istoreN X0.here hx rfl (hb hby d1_1) rfl (l' := #[.val (.ref r0), .val (.int p1), .val (.int p2), .val (.int p1), .unset]) rfl ?_
    show Steps p.tables e below (s₁.setTop (mkF m 2 #[.val (.ref r0), .val (.int p1), .val (.int p2), .val (.int p1), .unset] [])) _
    refine XS.iloadN X0.here hx rfl (hb hby d1_2) rfl ?_
    show Steps p.tables e below (s₁.setTop (mkF m 3 #[.val (.ref r0), .val (.int p1), .val (.int p2), .val (.int p1), .unset] [(.int p2)])) _
    refine XS.istore X0.here hx rfl (hb hby d1_3) rfl (l' := #[.val (.ref r0), .val (.int p1), .val (.int p2), .val (.int p1), .val (.int p2)]) rfl ?_
    show Steps p.tables e below (s₁.setTop (mkF m 5 #[.val (.ref r0), .val (.int p1), .val (.int p2), .val (.int p1), .val (.int p2)] [])) _
    refine XS.iload X0.here hx rfl (hb hby d1_5) rfl ?_
    show Steps p.tables e below (s₁.setTop (mkF m 7 #[.val (.ref r0), .val (.int p1), .val (.int p2), .val (.int p1), .val (.int p2)] [(.int p2)])) _
    refine XS.bipush X0.here hx rfl (hb hby d1_7) ?_
    exact kt
  by_cases hc9_2 : (127 : Int32) < p2
  · skip
    obtain ⟨cl3, Ar3, q3, S3, M3, H3, G3⟩ := id AV
    have hin3 : ¬ (p1 < 0 ∨ cl3.slots.size ≤ (p1).toNatClampNeg) := inb_of S3 (own_inb b0 (by decide))
    obtain ⟨T4, h4, X4, e4, W4, st4⟩ := stB X0 hx hZ e0 Ar3 (j := p1) hin3 (g := (mkF m 27 #[.val (.ref r0), .val (.int p1), .val (.int p2), .val (.int (p1 + (1 : Int32))), .val (.int p2)] [(.int (((p2 &&& (127 : Int32)) ||| (128 : Int32)).toInt8.toInt32)), (.int p1), (.ref r0)])) rfl rfl (hb hby d1_27)
    have z5 : n0 ≤ h4.size := Nat.le_trans Z0 (Nat.le_of_eq W4.size.symm)
    have kp6 : Keep h0 h4 [r0] := kp0.wr W4 (Or.inl (List.mem_of_getElem? (i := 0) rfl))
    have f7 : Arv Z h4 r0 kk .byte (10 : Int32) (vs.set (p1).toNatClampNeg (.int (nar .byte (((p2 &&& (127 : Int32)) ||| (128 : Int32)).toInt8.toInt32)))) (.int (0 : Int32)) := Arv.set Ar3 q3 S3 M3 H3 G3 (fits_nar_byte _) W4 _ rfl (by (try simp only [List.length_set]); rw [hlen]; exact own_ix (own_inb b0 (by decide)))
    have N4 := Fr.snoc X4 N0 g_r0
    have G8 : ∀ t, Steps p.tables e below (T4.setTop (mkF m 9 #[.val (.ref r0), .val (.int p1), .val (.int p2), .val (.int (p1 + (1 : Int32))), .val (.int ((p2.toUInt32 >>> ((7 : Int32) &&& 31).toUInt32).toInt32))] [(.int (127 : Int32)), (.int ((p2.toUInt32 >>> ((7 : Int32) &&& 31).toUInt32).toInt32))])) t → Steps p.tables e below (s₁.setTop (entryFrame m #[(.ref r0), (.int p1), (.int p2)] 5)) t := by
      intro t kt
      refine G1 _ ?_
      show Steps p.tables e below (s₁.setTop (mkF m 9 #[.val (.ref r0), .val (.int p1), .val (.int p2), .val (.int p1), .val (.int p2)] [(.int (127 : Int32)), (.int p2)])) _
      refine XS.icmpNo X0.here hx rfl (hb hby d1_9) rfl (tlt hc9_2).2.2.2 ?_
      show Steps p.tables e below (s₁.setTop (mkF m 12 #[.val (.ref r0), .val (.int p1), .val (.int p2), .val (.int p1), .val (.int p2)] [])) _
      refine XS.aloadN X0.here hx rfl (hb hby d1_12) rfl rfl ?_
      show Steps p.tables e below (s₁.setTop (mkF m 13 #[.val (.ref r0), .val (.int p1), .val (.int p2), .val (.int p1), .val (.int p2)] [(.ref r0)])) _
      refine XS.iloadN X0.here hx rfl (hb hby d1_13) rfl ?_
      show Steps p.tables e below (s₁.setTop (mkF m 14 #[.val (.ref r0), .val (.int p1), .val (.int p2), .val (.int p1), .val (.int p2)] [(.int p1), (.ref r0)])) _
      refine XS.iinc X0.here hx rfl (hb hby d1_14) rfl (l' := #[.val (.ref r0), .val (.int p1), .val (.int p2), .val (.int (p1 + (1 : Int32))), .val (.int p2)]) rfl ?_
      show Steps p.tables e below (s₁.setTop (mkF m 17 #[.val (.ref r0), .val (.int p1), .val (.int p2), .val (.int (p1 + (1 : Int32))), .val (.int p2)] [(.int p1), (.ref r0)])) _
      refine XS.iload X0.here hx rfl (hb hby d1_17) rfl ?_
      show Steps p.tables e below (s₁.setTop (mkF m 19 #[.val (.ref r0), .val (.int p1), .val (.int p2), .val (.int (p1 + (1 : Int32))), .val (.int p2)] [(.int p2), (.int p1), (.ref r0)])) _
      refine XS.bipush X0.here hx rfl (hb hby d1_19) ?_
      show Steps p.tables e below (s₁.setTop (mkF m 21 #[.val (.ref r0), .val (.int p1), .val (.int p2), .val (.int (p1 + (1 : Int32))), .val (.int p2)] [(.int (127 : Int32)), (.int p2), (.int p1), (.ref r0)])) _
      refine XS.iand X0.here hx rfl (hb hby d1_21) rfl ?_
      show Steps p.tables e below (s₁.setTop (mkF m 22 #[.val (.ref r0), .val (.int p1), .val (.int p2), .val (.int (p1 + (1 : Int32))), .val (.int p2)] [(.int (p2 &&& (127 : Int32))), (.int p1), (.ref r0)])) _
      refine XS.sipush X0.here hx rfl (hb hby d1_22) ?_
      show Steps p.tables e below (s₁.setTop (mkF m 25 #[.val (.ref r0), .val (.int p1), .val (.int p2), .val (.int (p1 + (1 : Int32))), .val (.int p2)] [(.int (128 : Int32)), (.int (p2 &&& (127 : Int32))), (.int p1), (.ref r0)])) _
      refine XS.ior X0.here hx rfl (hb hby d1_25) rfl ?_
      show Steps p.tables e below (s₁.setTop (mkF m 26 #[.val (.ref r0), .val (.int p1), .val (.int p2), .val (.int (p1 + (1 : Int32))), .val (.int p2)] [(.int ((p2 &&& (127 : Int32)) ||| (128 : Int32))), (.int p1), (.ref r0)])) _
      refine XS.i2b X0.here hx rfl (hb hby d1_26) rfl ?_
      show Steps p.tables e below (s₁.setTop (mkF m 27 #[.val (.ref r0), .val (.int p1), .val (.int p2), .val (.int (p1 + (1 : Int32))), .val (.int p2)] [(.int (((p2 &&& (127 : Int32)) ||| (128 : Int32)).toInt8.toInt32)), (.int p1), (.ref r0)])) _
      refine st4 _ ?_
      show Steps p.tables e below (T4.setTop (mkF m 28 #[.val (.ref r0), .val (.int p1), .val (.int p2), .val (.int (p1 + (1 : Int32))), .val (.int p2)] [])) _
      refine XS.iload X4.here hx rfl (hb hby d1_28) rfl ?_
      show Steps p.tables e below (T4.setTop (mkF m 30 #[.val (.ref r0), .val (.int p1), .val (.int p2), .val (.int (p1 + (1 : Int32))), .val (.int p2)] [(.int p2)])) _
      refine XS.bipush X4.here hx rfl (hb hby d1_30) ?_
      show Steps p.tables e below (T4.setTop (mkF m 32 #[.val (.ref r0), .val (.int p1), .val (.int p2), .val (.int (p1 + (1 : Int32))), .val (.int p2)] [(.int (7 : Int32)), (.int p2)])) _
      refine XS.iushr X4.here hx rfl (hb hby d1_32) rfl ?_
      show Steps p.tables e below (T4.setTop (mkF m 33 #[.val (.ref r0), .val (.int p1), .val (.int p2), .val (.int (p1 + (1 : Int32))), .val (.int p2)] [(.int ((p2.toUInt32 >>> ((7 : Int32) &&& 31).toUInt32).toInt32))])) _
      refine XS.istore X4.here hx rfl (hb hby d1_33) rfl (l' := #[.val (.ref r0), .val (.int p1), .val (.int p2), .val (.int (p1 + (1 : Int32))), .val (.int ((p2.toUInt32 >>> ((7 : Int32) &&& 31).toUInt32).toInt32))]) rfl ?_
      show Steps p.tables e below (T4.setTop (mkF m 35 #[.val (.ref r0), .val (.int p1), .val (.int p2), .val (.int (p1 + (1 : Int32))), .val (.int ((p2.toUInt32 >>> ((7 : Int32) &&& 31).toUInt32).toInt32))] [])) _
      refine XS.goto X4.here hx rfl (pc0 := 35) (pc' := 5) rfl (hb hby d1_35) (by decide) (by decide) ?_
      show Steps p.tables e below (T4.setTop (mkF m 5 #[.val (.ref r0), .val (.int p1), .val (.int p2), .val (.int (p1 + (1 : Int32))), .val (.int ((p2.toUInt32 >>> ((7 : Int32) &&& 31).toUInt32).toInt32))] [])) _
      refine XS.iload X4.here hx rfl (hb hby d1_5) rfl ?_
      show Steps p.tables e below (T4.setTop (mkF m 7 #[.val (.ref r0), .val (.int p1), .val (.int p2), .val (.int (p1 + (1 : Int32))), .val (.int ((p2.toUInt32 >>> ((7 : Int32) &&& 31).toUInt32).toInt32))] [(.int ((p2.toUInt32 >>> ((7 : Int32) &&& 31).toUInt32).toInt32))])) _
      refine XS.bipush X4.here hx rfl (hb hby d1_7) ?_
      exact kt
    by_cases hc9_9 : (127 : Int32) < ((p2.toUInt32 >>> ((7 : Int32) &&& 31).toUInt32).toInt32)
    · skip
      obtain ⟨cl10, Ar10, q10, S10, M10, H10, G10⟩ := id f7
      have hin10 : ¬ ((p1 + (1 : Int32)) < 0 ∨ cl10.slots.size ≤ ((p1 + (1 : Int32))).toNatClampNeg) := inb_of S10 (own_inb b1 (by decide))
      obtain ⟨T11, h11, X11, e11, W11, st11⟩ := stB X4 hx hZ e4 Ar10 (j := (p1 + (1 : Int32))) hin10 (g := (mkF m 27 #[.val (.ref r0), .val (.int p1), .val (.int p2), .val (.int ((p1 + (1 : Int32)) + (1 : Int32))), .val (.int ((p2.toUInt32 >>> ((7 : Int32) &&& 31).toUInt32).toInt32))] [(.int (((((p2.toUInt32 >>> ((7 : Int32) &&& 31).toUInt32).toInt32) &&& (127 : Int32)) ||| (128 : Int32)).toInt8.toInt32)), (.int (p1 + (1 : Int32))), (.ref r0)])) rfl rfl (hb hby d1_27)
      have z12 : n0 ≤ h11.size := Nat.le_trans z5 (Nat.le_of_eq W11.size.symm)
      have kp13 : Keep h0 h11 [r0] := kp6.wr W11 (Or.inl (List.mem_of_getElem? (i := 0) rfl))
      have f14 : Arv Z h11 r0 kk .byte (10 : Int32) ((vs.set (p1).toNatClampNeg (.int (nar .byte (((p2 &&& (127 : Int32)) ||| (128 : Int32)).toInt8.toInt32)))).set ((p1 + (1 : Int32))).toNatClampNeg (.int (nar .byte (((((p2.toUInt32 >>> ((7 : Int32) &&& 31).toUInt32).toInt32) &&& (127 : Int32)) ||| (128 : Int32)).toInt8.toInt32)))) (.int (0 : Int32)) := Arv.set Ar10 q10 S10 M10 H10 G10 (fits_nar_byte _) W11 _ rfl (by (try simp only [List.length_set]); rw [hlen]; exact own_ix (own_inb b1 (by decide)))
      have N11 := Fr.snoc X11 N4 g_r0
      have G15 : ∀ t, Steps p.tables e below (T11.setTop (mkF m 9 #[.val (.ref r0), .val (.int p1), .val (.int p2), .val (.int ((p1 + (1 : Int32)) + (1 : Int32))), .val (.int ((((p2.toUInt32 >>> ((7 : Int32) &&& 31).toUInt32).toInt32).toUInt32 >>> ((7 : Int32) &&& 31).toUInt32).toInt32))] [(.int (127 : Int32)), (.int ((((p2.toUInt32 >>> ((7 : Int32) &&& 31).toUInt32).toInt32).toUInt32 >>> ((7 : Int32) &&& 31).toUInt32).toInt32))])) t → Steps p.tables e below (s₁.setTop (entryFrame m #[(.ref r0), (.int p1), (.int p2)] 5)) t := by
        intro t kt
        refine G8 _ ?_
        show Steps p.tables e below (T4.setTop (mkF m 9 #[.val (.ref r0), .val (.int p1), .val (.int p2), .val (.int (p1 + (1 : Int32))), .val (.int ((p2.toUInt32 >>> ((7 : Int32) &&& 31).toUInt32).toInt32))] [(.int (127 : Int32)), (.int ((p2.toUInt32 >>> ((7 : Int32) &&& 31).toUInt32).toInt32))])) _
        refine XS.icmpNo X4.here hx rfl (hb hby d1_9) rfl (tlt hc9_9).2.2.2 ?_
        show Steps p.tables e below (T4.setTop (mkF m 12 #[.val (.ref r0), .val (.int p1), .val (.int p2), .val (.int (p1 + (1 : Int32))), .val (.int ((p2.toUInt32 >>> ((7 : Int32) &&& 31).toUInt32).toInt32))] [])) _
        refine XS.aloadN X4.here hx rfl (hb hby d1_12) rfl rfl ?_
        show Steps p.tables e below (T4.setTop (mkF m 13 #[.val (.ref r0), .val (.int p1), .val (.int p2), .val (.int (p1 + (1 : Int32))), .val (.int ((p2.toUInt32 >>> ((7 : Int32) &&& 31).toUInt32).toInt32))] [(.ref r0)])) _
        refine XS.iloadN X4.here hx rfl (hb hby d1_13) rfl ?_
        show Steps p.tables e below (T4.setTop (mkF m 14 #[.val (.ref r0), .val (.int p1), .val (.int p2), .val (.int (p1 + (1 : Int32))), .val (.int ((p2.toUInt32 >>> ((7 : Int32) &&& 31).toUInt32).toInt32))] [(.int (p1 + (1 : Int32))), (.ref r0)])) _
        refine XS.iinc X4.here hx rfl (hb hby d1_14) rfl (l' := #[.val (.ref r0), .val (.int p1), .val (.int p2), .val (.int ((p1 + (1 : Int32)) + (1 : Int32))), .val (.int ((p2.toUInt32 >>> ((7 : Int32) &&& 31).toUInt32).toInt32))]) rfl ?_
        show Steps p.tables e below (T4.setTop (mkF m 17 #[.val (.ref r0), .val (.int p1), .val (.int p2), .val (.int ((p1 + (1 : Int32)) + (1 : Int32))), .val (.int ((p2.toUInt32 >>> ((7 : Int32) &&& 31).toUInt32).toInt32))] [(.int (p1 + (1 : Int32))), (.ref r0)])) _
        refine XS.iload X4.here hx rfl (hb hby d1_17) rfl ?_
        show Steps p.tables e below (T4.setTop (mkF m 19 #[.val (.ref r0), .val (.int p1), .val (.int p2), .val (.int ((p1 + (1 : Int32)) + (1 : Int32))), .val (.int ((p2.toUInt32 >>> ((7 : Int32) &&& 31).toUInt32).toInt32))] [(.int ((p2.toUInt32 >>> ((7 : Int32) &&& 31).toUInt32).toInt32)), (.int (p1 + (1 : Int32))), (.ref r0)])) _
        refine XS.bipush X4.here hx rfl (hb hby d1_19) ?_
        show Steps p.tables e below (T4.setTop (mkF m 21 #[.val (.ref r0), .val (.int p1), .val (.int p2), .val (.int ((p1 + (1 : Int32)) + (1 : Int32))), .val (.int ((p2.toUInt32 >>> ((7 : Int32) &&& 31).toUInt32).toInt32))] [(.int (127 : Int32)), (.int ((p2.toUInt32 >>> ((7 : Int32) &&& 31).toUInt32).toInt32)), (.int (p1 + (1 : Int32))), (.ref r0)])) _
        refine XS.iand X4.here hx rfl (hb hby d1_21) rfl ?_
        show Steps p.tables e below (T4.setTop (mkF m 22 #[.val (.ref r0), .val (.int p1), .val (.int p2), .val (.int ((p1 + (1 : Int32)) + (1 : Int32))), .val (.int ((p2.toUInt32 >>> ((7 : Int32) &&& 31).toUInt32).toInt32))] [(.int (((p2.toUInt32 >>> ((7 : Int32) &&& 31).toUInt32).toInt32) &&& (127 : Int32))), (.int (p1 + (1 : Int32))), (.ref r0)])) _
        refine XS.sipush X4.here hx rfl (hb hby d1_22) ?_
        show Steps p.tables e below (T4.setTop (mkF m 25 #[.val (.ref r0), .val (.int p1), .val (.int p2), .val (.int ((p1 + (1 : Int32)) + (1 : Int32))), .val (.int ((p2.toUInt32 >>> ((7 : Int32) &&& 31).toUInt32).toInt32))] [(.int (128 : Int32)), (.int (((p2.toUInt32 >>> ((7 : Int32) &&& 31).toUInt32).toInt32) &&& (127 : Int32))), (.int (p1 + (1 : Int32))), (.ref r0)])) _
        refine XS.ior X4.here hx rfl (hb hby d1_25) rfl ?_
        show Steps p.tables e below (T4.setTop (mkF m 26 #[.val (.ref r0), .val (.int p1), .val (.int p2), .val (.int ((p1 + (1 : Int32)) + (1 : Int32))), .val (.int ((p2.toUInt32 >>> ((7 : Int32) &&& 31).toUInt32).toInt32))] [(.int ((((p2.toUInt32 >>> ((7 : Int32) &&& 31).toUInt32).toInt32) &&& (127 : Int32)) ||| (128 : Int32))), (.int (p1 + (1 : Int32))), (.ref r0)])) _
        refine XS.i2b X4.here hx rfl (hb hby d1_26) rfl ?_
        show Steps p.tables e below (T4.setTop (mkF m 27 #[.val (.ref r0), .val (.int p1), .val (.int p2), .val (.int ((p1 + (1 : Int32)) + (1 : Int32))), .val (.int ((p2.toUInt32 >>> ((7 : Int32) &&& 31).toUInt32).toInt32))] [(.int (((((p2.toUInt32 >>> ((7 : Int32) &&& 31).toUInt32).toInt32) &&& (127 : Int32)) ||| (128 : Int32)).toInt8.toInt32)), (.int (p1 + (1 : Int32))), (.ref r0)])) _
        refine st11 _ ?_
        show Steps p.tables e below (T11.setTop (mkF m 28 #[.val (.ref r0), .val (.int p1), .val (.int p2), .val (.int ((p1 + (1 : Int32)) + (1 : Int32))), .val (.int ((p2.toUInt32 >>> ((7 : Int32) &&& 31).toUInt32).toInt32))] [])) _
        refine XS.iload X11.here hx rfl (hb hby d1_28) rfl ?_
        show Steps p.tables e below (T11.setTop (mkF m 30 #[.val (.ref r0), .val (.int p1), .val (.int p2), .val (.int ((p1 + (1 : Int32)) + (1 : Int32))), .val (.int ((p2.toUInt32 >>> ((7 : Int32) &&& 31).toUInt32).toInt32))] [(.int ((p2.toUInt32 >>> ((7 : Int32) &&& 31).toUInt32).toInt32))])) _
        refine XS.bipush X11.here hx rfl (hb hby d1_30) ?_
        show Steps p.tables e below (T11.setTop (mkF m 32 #[.val (.ref r0), .val (.int p1), .val (.int p2), .val (.int ((p1 + (1 : Int32)) + (1 : Int32))), .val (.int ((p2.toUInt32 >>> ((7 : Int32) &&& 31).toUInt32).toInt32))] [(.int (7 : Int32)), (.int ((p2.toUInt32 >>> ((7 : Int32) &&& 31).toUInt32).toInt32))])) _
        refine XS.iushr X11.here hx rfl (hb hby d1_32) rfl ?_
        show Steps p.tables e below (T11.setTop (mkF m 33 #[.val (.ref r0), .val (.int p1), .val (.int p2), .val (.int ((p1 + (1 : Int32)) + (1 : Int32))), .val (.int ((p2.toUInt32 >>> ((7 : Int32) &&& 31).toUInt32).toInt32))] [(.int ((((p2.toUInt32 >>> ((7 : Int32) &&& 31).toUInt32).toInt32).toUInt32 >>> ((7 : Int32) &&& 31).toUInt32).toInt32))])) _
        refine XS.istore X11.here hx rfl (hb hby d1_33) rfl (l' := #[.val (.ref r0), .val (.int p1), .val (.int p2), .val (.int ((p1 + (1 : Int32)) + (1 : Int32))), .val (.int ((((p2.toUInt32 >>> ((7 : Int32) &&& 31).toUInt32).toInt32).toUInt32 >>> ((7 : Int32) &&& 31).toUInt32).toInt32))]) rfl ?_
        show Steps p.tables e below (T11.setTop (mkF m 35 #[.val (.ref r0), .val (.int p1), .val (.int p2), .val (.int ((p1 + (1 : Int32)) + (1 : Int32))), .val (.int ((((p2.toUInt32 >>> ((7 : Int32) &&& 31).toUInt32).toInt32).toUInt32 >>> ((7 : Int32) &&& 31).toUInt32).toInt32))] [])) _
        refine XS.goto X11.here hx rfl (pc0 := 35) (pc' := 5) rfl (hb hby d1_35) (by decide) (by decide) ?_
        show Steps p.tables e below (T11.setTop (mkF m 5 #[.val (.ref r0), .val (.int p1), .val (.int p2), .val (.int ((p1 + (1 : Int32)) + (1 : Int32))), .val (.int ((((p2.toUInt32 >>> ((7 : Int32) &&& 31).toUInt32).toInt32).toUInt32 >>> ((7 : Int32) &&& 31).toUInt32).toInt32))] [])) _
        refine XS.iload X11.here hx rfl (hb hby d1_5) rfl ?_
        show Steps p.tables e below (T11.setTop (mkF m 7 #[.val (.ref r0), .val (.int p1), .val (.int p2), .val (.int ((p1 + (1 : Int32)) + (1 : Int32))), .val (.int ((((p2.toUInt32 >>> ((7 : Int32) &&& 31).toUInt32).toInt32).toUInt32 >>> ((7 : Int32) &&& 31).toUInt32).toInt32))] [(.int ((((p2.toUInt32 >>> ((7 : Int32) &&& 31).toUInt32).toInt32).toUInt32 >>> ((7 : Int32) &&& 31).toUInt32).toInt32))])) _
        refine XS.bipush X11.here hx rfl (hb hby d1_7) ?_
        exact kt
      by_cases hc9_16 : (127 : Int32) < ((((p2.toUInt32 >>> ((7 : Int32) &&& 31).toUInt32).toInt32).toUInt32 >>> ((7 : Int32) &&& 31).toUInt32).toInt32)
      · skip
        obtain ⟨cl17, Ar17, q17, S17, M17, H17, G17⟩ := id f14
        have hin17 : ¬ (((p1 + (1 : Int32)) + (1 : Int32)) < 0 ∨ cl17.slots.size ≤ (((p1 + (1 : Int32)) + (1 : Int32))).toNatClampNeg) := inb_of S17 (own_inb b2 (by decide))
        obtain ⟨T18, h18, X18, e18, W18, st18⟩ := stB X11 hx hZ e11 Ar17 (j := ((p1 + (1 : Int32)) + (1 : Int32))) hin17 (g := (mkF m 27 #[.val (.ref r0), .val (.int p1), .val (.int p2), .val (.int (((p1 + (1 : Int32)) + (1 : Int32)) + (1 : Int32))), .val (.int ((((p2.toUInt32 >>> ((7 : Int32) &&& 31).toUInt32).toInt32).toUInt32 >>> ((7 : Int32) &&& 31).toUInt32).toInt32))] [(.int (((((((p2.toUInt32 >>> ((7 : Int32) &&& 31).toUInt32).toInt32).toUInt32 >>> ((7 : Int32) &&& 31).toUInt32).toInt32) &&& (127 : Int32)) ||| (128 : Int32)).toInt8.toInt32)), (.int ((p1 + (1 : Int32)) + (1 : Int32))), (.ref r0)])) rfl rfl (hb hby d1_27)
        have z19 : n0 ≤ h18.size := Nat.le_trans z12 (Nat.le_of_eq W18.size.symm)
        have kp20 : Keep h0 h18 [r0] := kp13.wr W18 (Or.inl (List.mem_of_getElem? (i := 0) rfl))
        have f21 : Arv Z h18 r0 kk .byte (10 : Int32) (((vs.set (p1).toNatClampNeg (.int (nar .byte (((p2 &&& (127 : Int32)) ||| (128 : Int32)).toInt8.toInt32)))).set ((p1 + (1 : Int32))).toNatClampNeg (.int (nar .byte (((((p2.toUInt32 >>> ((7 : Int32) &&& 31).toUInt32).toInt32) &&& (127 : Int32)) ||| (128 : Int32)).toInt8.toInt32)))).set (((p1 + (1 : Int32)) + (1 : Int32))).toNatClampNeg (.int (nar .byte (((((((p2.toUInt32 >>> ((7 : Int32) &&& 31).toUInt32).toInt32).toUInt32 >>> ((7 : Int32) &&& 31).toUInt32).toInt32) &&& (127 : Int32)) ||| (128 : Int32)).toInt8.toInt32)))) (.int (0 : Int32)) := Arv.set Ar17 q17 S17 M17 H17 G17 (fits_nar_byte _) W18 _ rfl (by (try simp only [List.length_set]); rw [hlen]; exact own_ix (own_inb b2 (by decide)))
        have N18 := Fr.snoc X18 N11 g_r0
        have G22 : ∀ t, Steps p.tables e below (T18.setTop (mkF m 9 #[.val (.ref r0), .val (.int p1), .val (.int p2), .val (.int (((p1 + (1 : Int32)) + (1 : Int32)) + (1 : Int32))), .val (.int ((((((p2.toUInt32 >>> ((7 : Int32) &&& 31).toUInt32).toInt32).toUInt32 >>> ((7 : Int32) &&& 31).toUInt32).toInt32).toUInt32 >>> ((7 : Int32) &&& 31).toUInt32).toInt32))] [(.int (127 : Int32)), (.int ((((((p2.toUInt32 >>> ((7 : Int32) &&& 31).toUInt32).toInt32).toUInt32 >>> ((7 : Int32) &&& 31).toUInt32).toInt32).toUInt32 >>> ((7 : Int32) &&& 31).toUInt32).toInt32))])) t → Steps p.tables e below (s₁.setTop (entryFrame m #[(.ref r0), (.int p1), (.int p2)] 5)) t := by
          intro t kt
          refine G15 _ ?_
          show Steps p.tables e below (T11.setTop (mkF m 9 #[.val (.ref r0), .val (.int p1), .val (.int p2), .val (.int ((p1 + (1 : Int32)) + (1 : Int32))), .val (.int ((((p2.toUInt32 >>> ((7 : Int32) &&& 31).toUInt32).toInt32).toUInt32 >>> ((7 : Int32) &&& 31).toUInt32).toInt32))] [(.int (127 : Int32)), (.int ((((p2.toUInt32 >>> ((7 : Int32) &&& 31).toUInt32).toInt32).toUInt32 >>> ((7 : Int32) &&& 31).toUInt32).toInt32))])) _
          refine XS.icmpNo X11.here hx rfl (hb hby d1_9) rfl (tlt hc9_16).2.2.2 ?_
          show Steps p.tables e below (T11.setTop (mkF m 12 #[.val (.ref r0), .val (.int p1), .val (.int p2), .val (.int ((p1 + (1 : Int32)) + (1 : Int32))), .val (.int ((((p2.toUInt32 >>> ((7 : Int32) &&& 31).toUInt32).toInt32).toUInt32 >>> ((7 : Int32) &&& 31).toUInt32).toInt32))] [])) _
          refine XS.aloadN X11.here hx rfl (hb hby d1_12) rfl rfl ?_
          show Steps p.tables e below (T11.setTop (mkF m 13 #[.val (.ref r0), .val (.int p1), .val (.int p2), .val (.int ((p1 + (1 : Int32)) + (1 : Int32))), .val (.int ((((p2.toUInt32 >>> ((7 : Int32) &&& 31).toUInt32).toInt32).toUInt32 >>> ((7 : Int32) &&& 31).toUInt32).toInt32))] [(.ref r0)])) _
          refine XS.iloadN X11.here hx rfl (hb hby d1_13) rfl ?_
          show Steps p.tables e below (T11.setTop (mkF m 14 #[.val (.ref r0), .val (.int p1), .val (.int p2), .val (.int ((p1 + (1 : Int32)) + (1 : Int32))), .val (.int ((((p2.toUInt32 >>> ((7 : Int32) &&& 31).toUInt32).toInt32).toUInt32 >>> ((7 : Int32) &&& 31).toUInt32).toInt32))] [(.int ((p1 + (1 : Int32)) + (1 : Int32))), (.ref r0)])) _
          refine XS.iinc X11.here hx rfl (hb hby d1_14) rfl (l' := #[.val (.ref r0), .val (.int p1), .val (.int p2), .val (.int (((p1 + (1 : Int32)) + (1 : Int32)) + (1 : Int32))), .val (.int ((((p2.toUInt32 >>> ((7 : Int32) &&& 31).toUInt32).toInt32).toUInt32 >>> ((7 : Int32) &&& 31).toUInt32).toInt32))]) rfl ?_
          show Steps p.tables e below (T11.setTop (mkF m 17 #[.val (.ref r0), .val (.int p1), .val (.int p2), .val (.int (((p1 + (1 : Int32)) + (1 : Int32)) + (1 : Int32))), .val (.int ((((p2.toUInt32 >>> ((7 : Int32) &&& 31).toUInt32).toInt32).toUInt32 >>> ((7 : Int32) &&& 31).toUInt32).toInt32))] [(.int ((p1 + (1 : Int32)) + (1 : Int32))), (.ref r0)])) _
          refine XS.iload X11.here hx rfl (hb hby d1_17) rfl ?_
          show Steps p.tables e below (T11.setTop (mkF m 19 #[.val (.ref r0), .val (.int p1), .val (.int p2), .val (.int (((p1 + (1 : Int32)) + (1 : Int32)) + (1 : Int32))), .val (.int ((((p2.toUInt32 >>> ((7 : Int32) &&& 31).toUInt32).toInt32).toUInt32 >>> ((7 : Int32) &&& 31).toUInt32).toInt32))] [(.int ((((p2.toUInt32 >>> ((7 : Int32) &&& 31).toUInt32).toInt32).toUInt32 >>> ((7 : Int32) &&& 31).toUInt32).toInt32)), (.int ((p1 + (1 : Int32)) + (1 : Int32))), (.ref r0)])) _
          refine XS.bipush X11.here hx rfl (hb hby d1_19) ?_
          show Steps p.tables e below (T11.setTop (mkF m 21 #[.val (.ref r0), .val (.int p1), .val (.int p2), .val (.int (((p1 + (1 : Int32)) + (1 : Int32)) + (1 : Int32))), .val (.int ((((p2.toUInt32 >>> ((7 : Int32) &&& 31).toUInt32).toInt32).toUInt32 >>> ((7 : Int32) &&& 31).toUInt32).toInt32))] [(.int (127 : Int32)), (.int ((((p2.toUInt32 >>> ((7 : Int32) &&& 31).toUInt32).toInt32).toUInt32 >>> ((7 : Int32) &&& 31).toUInt32).toInt32)), (.int ((p1 + (1 : Int32)) + (1 : Int32))), (.ref r0)])) _
          refine XS.iand X11.here hx rfl (hb hby d1_21) rfl ?_
          show Steps p.tables e below (T11.setTop (mkF m 22 #[.val (.ref r0), .val (.int p1), .val (.int p2), .val (.int (((p1 + (1 : Int32)) + (1 : Int32)) + (1 : Int32))), .val (.int ((((p2.toUInt32 >>> ((7 : Int32) &&& 31).toUInt32).toInt32).toUInt32 >>> ((7 : Int32) &&& 31).toUInt32).toInt32))] [(.int (((((p2.toUInt32 >>> ((7 : Int32) &&& 31).toUInt32).toInt32).toUInt32 >>> ((7 : Int32) &&& 31).toUInt32).toInt32) &&& (127 : Int32))), (.int ((p1 + (1 : Int32)) + (1 : Int32))), (.ref r0)])) _
          refine XS.sipush X11.here hx rfl (hb hby d1_22) ?_
          show Steps p.tables e below (T11.setTop (mkF m 25 #[.val (.ref r0), .val (.int p1), .val (.int p2), .val (.int (((p1 + (1 : Int32)) + (1 : Int32)) + (1 : Int32))), .val (.int ((((p2.toUInt32 >>> ((7 : Int32) &&& 31).toUInt32).toInt32).toUInt32 >>> ((7 : Int32) &&& 31).toUInt32).toInt32))] [(.int (128 : Int32)), (.int (((((p2.toUInt32 >>> ((7 : Int32) &&& 31).toUInt32).toInt32).toUInt32 >>> ((7 : Int32) &&& 31).toUInt32).toInt32) &&& (127 : Int32))), (.int ((p1 + (1 : Int32)) + (1 : Int32))), (.ref r0)])) _
          refine XS.ior X11.here hx rfl (hb hby d1_25) rfl ?_
          show Steps p.tables e below (T11.setTop (mkF m 26 #[.val (.ref r0), .val (.int p1), .val (.int p2), .val (.int (((p1 + (1 : Int32)) + (1 : Int32)) + (1 : Int32))), .val (.int ((((p2.toUInt32 >>> ((7 : Int32) &&& 31).toUInt32).toInt32).toUInt32 >>> ((7 : Int32) &&& 31).toUInt32).toInt32))] [(.int ((((((p2.toUInt32 >>> ((7 : Int32) &&& 31).toUInt32).toInt32).toUInt32 >>> ((7 : Int32) &&& 31).toUInt32).toInt32) &&& (127 : Int32)) ||| (128 : Int32))), (.int ((p1 + (1 : Int32)) + (1 : Int32))), (.ref r0)])) _
          refine XS.i2b X11.here hx rfl (hb hby d1_26) rfl ?_
          show Steps p.tables e below (T11.setTop (mkF m 27 #[.val (.ref r0), .val (.int p1), .val (.int p2), .val (.int (((p1 + (1 : Int32)) + (1 : Int32)) + (1 : Int32))), .val (.int ((((p2.toUInt32 >>> ((7 : Int32) &&& 31).toUInt32).toInt32).toUInt32 >>> ((7 : Int32) &&& 31).toUInt32).toInt32))] [(.int (((((((p2.toUInt32 >>> ((7 : Int32) &&& 31).toUInt32).toInt32).toUInt32 >>> ((7 : Int32) &&& 31).toUInt32).toInt32) &&& (127 : Int32)) ||| (128 : Int32)).toInt8.toInt32)), (.int ((p1 + (1 : Int32)) + (1 : Int32))), (.ref r0)])) _
          refine st18 _ ?_
          show Steps p.tables e below (T18.setTop (mkF m 28 #[.val (.ref r0), .val (.int p1), .val (.int p2), .val (.int (((p1 + (1 : Int32)) + (1 : Int32)) + (1 : Int32))), .val (.int ((((p2.toUInt32 >>> ((7 : Int32) &&& 31).toUInt32).toInt32).toUInt32 >>> ((7 : Int32) &&& 31).toUInt32).toInt32))] [])) _
          refine XS.iload X18.here hx rfl (hb hby d1_28) rfl ?_
          show Steps p.tables e below (T18.setTop (mkF m 30 #[.val (.ref r0), .val (.int p1), .val (.int p2), .val (.int (((p1 + (1 : Int32)) + (1 : Int32)) + (1 : Int32))), .val (.int ((((p2.toUInt32 >>> ((7 : Int32) &&& 31).toUInt32).toInt32).toUInt32 >>> ((7 : Int32) &&& 31).toUInt32).toInt32))] [(.int ((((p2.toUInt32 >>> ((7 : Int32) &&& 31).toUInt32).toInt32).toUInt32 >>> ((7 : Int32) &&& 31).toUInt32).toInt32))])) _
          refine XS.bipush X18.here hx rfl (hb hby d1_30) ?_
          show Steps p.tables e below (T18.setTop (mkF m 32 #[.val (.ref r0), .val (.int p1), .val (.int p2), .val (.int (((p1 + (1 : Int32)) + (1 : Int32)) + (1 : Int32))), .val (.int ((((p2.toUInt32 >>> ((7 : Int32) &&& 31).toUInt32).toInt32).toUInt32 >>> ((7 : Int32) &&& 31).toUInt32).toInt32))] [(.int (7 : Int32)), (.int ((((p2.toUInt32 >>> ((7 : Int32) &&& 31).toUInt32).toInt32).toUInt32 >>> ((7 : Int32) &&& 31).toUInt32).toInt32))])) _
          refine XS.iushr X18.here hx rfl (hb hby d1_32) rfl ?_
          show Steps p.tables e below (T18.setTop (mkF m 33 #[.val (.ref r0), .val (.int p1), .val (.int p2), .val (.int (((p1 + (1 : Int32)) + (1 : Int32)) + (1 : Int32))), .val (.int ((((p2.toUInt32 >>> ((7 : Int32) &&& 31).toUInt32).toInt32).toUInt32 >>> ((7 : Int32) &&& 31).toUInt32).toInt32))] [(.int ((((((p2.toUInt32 >>> ((7 : Int32) &&& 31).toUInt32).toInt32).toUInt32 >>> ((7 : Int32) &&& 31).toUInt32).toInt32).toUInt32 >>> ((7 : Int32) &&& 31).toUInt32).toInt32))])) _
          refine XS.istore X18.here hx rfl (hb hby d1_33) rfl (l' := #[.val (.ref r0), .val (.int p1), .val (.int p2), .val (.int (((p1 + (1 : Int32)) + (1 : Int32)) + (1 : Int32))), .val (.int ((((((p2.toUInt32 >>> ((7 : Int32) &&& 31).toUInt32).toInt32).toUInt32 >>> ((7 : Int32) &&& 31).toUInt32).toInt32).toUInt32 >>> ((7 : Int32) &&& 31).toUInt32).toInt32))]) rfl ?_
          show Steps p.tables e below (T18.setTop (mkF m 35 #[.val (.ref r0), .val (.int p1), .val (.int p2), .val (.int (((p1 + (1 : Int32)) + (1 : Int32)) + (1 : Int32))), .val (.int ((((((p2.toUInt32 >>> ((7 : Int32) &&& 31).toUInt32).toInt32).toUInt32 >>> ((7 : Int32) &&& 31).toUInt32).toInt32).toUInt32 >>> ((7 : Int32) &&& 31).toUInt32).toInt32))] [])) _
          refine XS.goto X18.here hx rfl (pc0 := 35) (pc' := 5) rfl (hb hby d1_35) (by decide) (by decide) ?_
          show Steps p.tables e below (T18.setTop (mkF m 5 #[.val (.ref r0), .val (.int p1), .val (.int p2), .val (.int (((p1 + (1 : Int32)) + (1 : Int32)) + (1 : Int32))), .val (.int ((((((p2.toUInt32 >>> ((7 : Int32) &&& 31).toUInt32).toInt32).toUInt32 >>> ((7 : Int32) &&& 31).toUInt32).toInt32).toUInt32 >>> ((7 : Int32) &&& 31).toUInt32).toInt32))] [])) _
          refine XS.iload X18.here hx rfl (hb hby d1_5) rfl ?_
          show Steps p.tables e below (T18.setTop (mkF m 7 #[.val (.ref r0), .val (.int p1), .val (.int p2), .val (.int (((p1 + (1 : Int32)) + (1 : Int32)) + (1 : Int32))), .val (.int ((((((p2.toUInt32 >>> ((7 : Int32) &&& 31).toUInt32).toInt32).toUInt32 >>> ((7 : Int32) &&& 31).toUInt32).toInt32).toUInt32 >>> ((7 : Int32) &&& 31).toUInt32).toInt32))] [(.int ((((((p2.toUInt32 >>> ((7 : Int32) &&& 31).toUInt32).toInt32).toUInt32 >>> ((7 : Int32) &&& 31).toUInt32).toInt32).toUInt32 >>> ((7 : Int32) &&& 31).toUInt32).toInt32))])) _
          refine XS.bipush X18.here hx rfl (hb hby d1_7) ?_
          exact kt
        by_cases hc9_23 : (127 : Int32) < ((((((p2.toUInt32 >>> ((7 : Int32) &&& 31).toUInt32).toInt32).toUInt32 >>> ((7 : Int32) &&& 31).toUInt32).toInt32).toUInt32 >>> ((7 : Int32) &&& 31).toUInt32).toInt32)
        · skip
          obtain ⟨cl24, Ar24, q24, S24, M24, H24, G24⟩ := id f21
          have hin24 : ¬ ((((p1 + (1 : Int32)) + (1 : Int32)) + (1 : Int32)) < 0 ∨ cl24.slots.size ≤ ((((p1 + (1 : Int32)) + (1 : Int32)) + (1 : Int32))).toNatClampNeg) := inb_of S24 (own_inb b3 (by decide))
          obtain ⟨T25, h25, X25, e25, W25, st25⟩ := stB X18 hx hZ e18 Ar24 (j := (((p1 + (1 : Int32)) + (1 : Int32)) + (1 : Int32))) hin24 (g := (mkF m 27 #[.val (.ref r0), .val (.int p1), .val (.int p2), .val (.int ((((p1 + (1 : Int32)) + (1 : Int32)) + (1 : Int32)) + (1 : Int32))), .val (.int ((((((p2.toUInt32 >>> ((7 : Int32) &&& 31).toUInt32).toInt32).toUInt32 >>> ((7 : Int32) &&& 31).toUInt32).toInt32).toUInt32 >>> ((7 : Int32) &&& 31).toUInt32).toInt32))] [(.int (((((((((p2.toUInt32 >>> ((7 : Int32) &&& 31).toUInt32).toInt32).toUInt32 >>> ((7 : Int32) &&& 31).toUInt32).toInt32).toUInt32 >>> ((7 : Int32) &&& 31).toUInt32).toInt32) &&& (127 : Int32)) ||| (128 : Int32)).toInt8.toInt32)), (.int (((p1 + (1 : Int32)) + (1 : Int32)) + (1 : Int32))), (.ref r0)])) rfl rfl (hb hby d1_27)
          have z26 : n0 ≤ h25.size := Nat.le_trans z19 (Nat.le_of_eq W25.size.symm)
          have kp27 : Keep h0 h25 [r0] := kp20.wr W25 (Or.inl (List.mem_of_getElem? (i := 0) rfl))
          have f28 : Arv Z h25 r0 kk .byte (10 : Int32) ((((vs.set (p1).toNatClampNeg (.int (nar .byte (((p2 &&& (127 : Int32)) ||| (128 : Int32)).toInt8.toInt32)))).set ((p1 + (1 : Int32))).toNatClampNeg (.int (nar .byte (((((p2.toUInt32 >>> ((7 : Int32) &&& 31).toUInt32).toInt32) &&& (127 : Int32)) ||| (128 : Int32)).toInt8.toInt32)))).set (((p1 + (1 : Int32)) + (1 : Int32))).toNatClampNeg (.int (nar .byte (((((((p2.toUInt32 >>> ((7 : Int32) &&& 31).toUInt32).toInt32).toUInt32 >>> ((7 : Int32) &&& 31).toUInt32).toInt32) &&& (127 : Int32)) ||| (128 : Int32)).toInt8.toInt32)))).set ((((p1 + (1 : Int32)) + (1 : Int32)) + (1 : Int32))).toNatClampNeg (.int (nar .byte (((((((((p2.toUInt32 >>> ((7 : Int32) &&& 31).toUInt32).toInt32).toUInt32 >>> ((7 : Int32) &&& 31).toUInt32).toInt32).toUInt32 >>> ((7 : Int32) &&& 31).toUInt32).toInt32) &&& (127 : Int32)) ||| (128 : Int32)).toInt8.toInt32)))) (.int (0 : Int32)) := Arv.set Ar24 q24 S24 M24 H24 G24 (fits_nar_byte _) W25 _ rfl (by (try simp only [List.length_set]); rw [hlen]; exact own_ix (own_inb b3 (by decide)))
          have N25 := Fr.snoc X25 N18 g_r0
          have G29 : ∀ t, Steps p.tables e below (T25.setTop (mkF m 9 #[.val (.ref r0), .val (.int p1), .val (.int p2), .val (.int ((((p1 + (1 : Int32)) + (1 : Int32)) + (1 : Int32)) + (1 : Int32))), .val (.int ((((((((p2.toUInt32 >>> ((7 : Int32) &&& 31).toUInt32).toInt32).toUInt32 >>> ((7 : Int32) &&& 31).toUInt32).toInt32).toUInt32 >>> ((7 : Int32) &&& 31).toUInt32).toInt32).toUInt32 >>> ((7 : Int32) &&& 31).toUInt32).toInt32))] [(.int (127 : Int32)), (.int ((((((((p2.toUInt32 >>> ((7 : Int32) &&& 31).toUInt32).toInt32).toUInt32 >>> ((7 : Int32) &&& 31).toUInt32).toInt32).toUInt32 >>> ((7 : Int32) &&& 31).toUInt32).toInt32).toUInt32 >>> ((7 : Int32) &&& 31).toUInt32).toInt32))])) t → Steps p.tables e below (s₁.setTop (entryFrame m #[(.ref r0), (.int p1), (.int p2)] 5)) t := by
            intro t kt
            refine G22 _ ?_
            show Steps p.tables e below (T18.setTop (mkF m 9 #[.val (.ref r0), .val (.int p1), .val (.int p2), .val (.int (((p1 + (1 : Int32)) + (1 : Int32)) + (1 : Int32))), .val (.int ((((((p2.toUInt32 >>> ((7 : Int32) &&& 31).toUInt32).toInt32).toUInt32 >>> ((7 : Int32) &&& 31).toUInt32).toInt32).toUInt32 >>> ((7 : Int32) &&& 31).toUInt32).toInt32))] [(.int (127 : Int32)), (.int ((((((p2.toUInt32 >>> ((7 : Int32) &&& 31).toUInt32).toInt32).toUInt32 >>> ((7 : Int32) &&& 31).toUInt32).toInt32).toUInt32 >>> ((7 : Int32) &&& 31).toUInt32).toInt32))])) _
            refine XS.icmpNo X18.here hx rfl (hb hby d1_9) rfl (tlt hc9_23).2.2.2 ?_
            show Steps p.tables e below (T18.setTop (mkF m 12 #[.val (.ref r0), .val (.int p1), .val (.int p2), .val (.int (((p1 + (1 : Int32)) + (1 : Int32)) + (1 : Int32))), .val (.int ((((((p2.toUInt32 >>> ((7 : Int32) &&& 31).toUInt32).toInt32).toUInt32 >>> ((7 : Int32) &&& 31).toUInt32).toInt32).toUInt32 >>> ((7 : Int32) &&& 31).toUInt32).toInt32))] [])) _
            refine XS.aloadN X18.here hx rfl (hb hby d1_12) rfl rfl ?_
            show Steps p.tables e below (T18.setTop (mkF m 13 #[.val (.ref r0), .val (.int p1), .val (.int p2), .val (.int (((p1 + (1 : Int32)) + (1 : Int32)) + (1 : Int32))), .val (.int ((((((p2.toUInt32 >>> ((7 : Int32) &&& 31).toUInt32).toInt32).toUInt32 >>> ((7 : Int32) &&& 31).toUInt32).toInt32).toUInt32 >>> ((7 : Int32) &&& 31).toUInt32).toInt32))] [(.ref r0)])) _
            refine XS.iloadN X18.here hx rfl (hb hby d1_13) rfl ?_
            show Steps p.tables e below (T18.setTop (mkF m 14 #[.val (.ref r0), .val (.int p1), .val (.int p2), .val (.int (((p1 + (1 : Int32)) + (1 : Int32)) + (1 : Int32))), .val (.int ((((((p2.toUInt32 >>> ((7 : Int32) &&& 31).toUInt32).toInt32).toUInt32 >>> ((7 : Int32) &&& 31).toUInt32).toInt32).toUInt32 >>> ((7 : Int32) &&& 31).toUInt32).toInt32))] [(.int (((p1 + (1 : Int32)) + (1 : Int32)) + (1 : Int32))), (.ref r0)])) _
            refine XS.iinc X18.here hx rfl (hb hby d1_14) rfl (l' := #[.val (.ref r0), .val (.int p1), .val (.int p2), .val (.int ((((p1 + (1 : Int32)) + (1 : Int32)) + (1 : Int32)) + (1 : Int32))), .val (.int ((((((p2.toUInt32 >>> ((7 : Int32) &&& 31).toUInt32).toInt32).toUInt32 >>> ((7 : Int32) &&& 31).toUInt32).toInt32).toUInt32 >>> ((7 : Int32) &&& 31).toUInt32).toInt32))]) rfl ?_
            show Steps p.tables e below (T18.setTop (mkF m 17 #[.val (.ref r0), .val (.int p1), .val (.int p2), .val (.int ((((p1 + (1 : Int32)) + (1 : Int32)) + (1 : Int32)) + (1 : Int32))), .val (.int ((((((p2.toUInt32 >>> ((7 : Int32) &&& 31).toUInt32).toInt32).toUInt32 >>> ((7 : Int32) &&& 31).toUInt32).toInt32).toUInt32 >>> ((7 : Int32) &&& 31).toUInt32).toInt32))] [(.int (((p1 + (1 : Int32)) + (1 : Int32)) + (1 : Int32))), (.ref r0)])) _
            refine XS.iload X18.here hx rfl (hb hby d1_17) rfl ?_
            show Steps p.tables e below (T18.setTop (mkF m 19 #[.val (.ref r0), .val (.int p1), .val (.int p2), .val (.int ((((p1 + (1 : Int32)) + (1 : Int32)) + (1 : Int32)) + (1 : Int32))), .val (.int ((((((p2.toUInt32 >>> ((7 : Int32) &&& 31).toUInt32).toInt32).toUInt32 >>> ((7 : Int32) &&& 31).toUInt32).toInt32).toUInt32 >>> ((7 : Int32) &&& 31).toUInt32).toInt32))] [(.int ((((((p2.toUInt32 >>> ((7 : Int32) &&& 31).toUInt32).toInt32).toUInt32 >>> ((7 : Int32) &&& 31).toUInt32).toInt32).toUInt32 >>> ((7 : Int32) &&& 31).toUInt32).toInt32)), (.int (((p1 + (1 : Int32)) + (1 : Int32)) + (1 : Int32))), (.ref r0)])) _
            refine XS.bipush X18.here hx rfl (hb hby d1_19) ?_
            show Steps p.tables e below (T18.setTop (mkF m 21 #[.val (.ref r0), .val (.int p1), .val (.int p2), .val (.int ((((p1 + (1 : Int32)) + (1 : Int32)) + (1 : Int32)) + (1 : Int32))), .val (.int ((((((p2.toUInt32 >>> ((7 : Int32) &&& 31).toUInt32).toInt32).toUInt32 >>> ((7 : Int32) &&& 31).toUInt32).toInt32).toUInt32 >>> ((7 : Int32) &&& 31).toUInt32).toInt32))] [(.int (127 : Int32)), (.int ((((((p2.toUInt32 >>> ((7 : Int32) &&& 31).toUInt32).toInt32).toUInt32 >>> ((7 : Int32) &&& 31).toUInt32).toInt32).toUInt32 >>> ((7 : Int32) &&& 31).toUInt32).toInt32)), (.int (((p1 + (1 : Int32)) + (1 : Int32)) + (1 : Int32))), (.ref r0)])) _
            refine XS.iand X18.here hx rfl (hb hby d1_21) rfl ?_
            show Steps p.tables e below (T18.setTop (mkF m 22 #[.val (.ref r0), .val (.int p1), .val (.int p2), .val (.int ((((p1 + (1 : Int32)) + (1 : Int32)) + (1 : Int32)) + (1 : Int32))), .val (.int ((((((p2.toUInt32 >>> ((7 : Int32) &&& 31).toUInt32).toInt32).toUInt32 >>> ((7 : Int32) &&& 31).toUInt32).toInt32).toUInt32 >>> ((7 : Int32) &&& 31).toUInt32).toInt32))] [(.int (((((((p2.toUInt32 >>> ((7 : Int32) &&& 31).toUInt32).toInt32).toUInt32 >>> ((7 : Int32) &&& 31).toUInt32).toInt32).toUInt32 >>> ((7 : Int32) &&& 31).toUInt32).toInt32) &&& (127 : Int32))), (.int (((p1 + (1 : Int32)) + (1 : Int32)) + (1 : Int32))), (.ref r0)])) _
            refine XS.sipush X18.here hx rfl (hb hby d1_22) ?_
            show Steps p.tables e below (T18.setTop (mkF m 25 #[.val (.ref r0), .val (.int p1), .val (.int p2), .val (.int ((((p1 + (1 : Int32)) + (1 : Int32)) + (1 : Int32)) + (1 : Int32))), .val (.int ((((((p2.toUInt32 >>> ((7 : Int32) &&& 31).toUInt32).toInt32).toUInt32 >>> ((7 : Int32) &&& 31).toUInt32).toInt32).toUInt32 >>> ((7 : Int32) &&& 31).toUInt32).toInt32))] [(.int (128 : Int32)), (.int (((((((p2.toUInt32 >>> ((7 : Int32) &&& 31).toUInt32).toInt32).toUInt32 >>> ((7 : Int32) &&& 31).toUInt32).toInt32).toUInt32 >>> ((7 : Int32) &&& 31).toUInt32).toInt32) &&& (127 : Int32))), (.int (((p1 + (1 : Int32)) + (1 : Int32)) + (1 : Int32))), (.ref r0)])) _
            refine XS.ior X18.here hx rfl (hb hby d1_25) rfl ?_
            show Steps p.tables e below (T18.setTop (mkF m 26 #[.val (.ref r0), .val (.int p1), .val (.int p2), .val (.int ((((p1 + (1 : Int32)) + (1 : Int32)) + (1 : Int32)) + (1 : Int32))), .val (.int ((((((p2.toUInt32 >>> ((7 : Int32) &&& 31).toUInt32).toInt32).toUInt32 >>> ((7 : Int32) &&& 31).toUInt32).toInt32).toUInt32 >>> ((7 : Int32) &&& 31).toUInt32).toInt32))] [(.int ((((((((p2.toUInt32 >>> ((7 : Int32) &&& 31).toUInt32).toInt32).toUInt32 >>> ((7 : Int32) &&& 31).toUInt32).toInt32).toUInt32 >>> ((7 : Int32) &&& 31).toUInt32).toInt32) &&& (127 : Int32)) ||| (128 : Int32))), (.int (((p1 + (1 : Int32)) + (1 : Int32)) + (1 : Int32))), (.ref r0)])) _
            refine XS.i2b X18.here hx rfl (hb hby d1_26) rfl ?_
            show Steps p.tables e below (T18.setTop (mkF m 27 #[.val (.ref r0), .val (.int p1), .val (.int p2), .val (.int ((((p1 + (1 : Int32)) + (1 : Int32)) + (1 : Int32)) + (1 : Int32))), .val (.int ((((((p2.toUInt32 >>> ((7 : Int32) &&& 31).toUInt32).toInt32).toUInt32 >>> ((7 : Int32) &&& 31).toUInt32).toInt32).toUInt32 >>> ((7 : Int32) &&& 31).toUInt32).toInt32))] [(.int (((((((((p2.toUInt32 >>> ((7 : Int32) &&& 31).toUInt32).toInt32).toUInt32 >>> ((7 : Int32) &&& 31).toUInt32).toInt32).toUInt32 >>> ((7 : Int32) &&& 31).toUInt32).toInt32) &&& (127 : Int32)) ||| (128 : Int32)).toInt8.toInt32)), (.int (((p1 + (1 : Int32)) + (1 : Int32)) + (1 : Int32))), (.ref r0)])) _
            refine st25 _ ?_
            show Steps p.tables e below (T25.setTop (mkF m 28 #[.val (.ref r0), .val (.int p1), .val (.int p2), .val (.int ((((p1 + (1 : Int32)) + (1 : Int32)) + (1 : Int32)) + (1 : Int32))), .val (.int ((((((p2.toUInt32 >>> ((7 : Int32) &&& 31).toUInt32).toInt32).toUInt32 >>> ((7 : Int32) &&& 31).toUInt32).toInt32).toUInt32 >>> ((7 : Int32) &&& 31).toUInt32).toInt32))] [])) _
            refine XS.iload X25.here hx rfl (hb hby d1_28) rfl ?_
            show Steps p.tables e below (T25.setTop (mkF m 30 #[.val (.ref r0), .val (.int p1), .val (.int p2), .val (.int ((((p1 + (1 : Int32)) + (1 : Int32)) + (1 : Int32)) + (1 : Int32))), .val (.int ((((((p2.toUInt32 >>> ((7 : Int32) &&& 31).toUInt32).toInt32).toUInt32 >>> ((7 : Int32) &&& 31).toUInt32).toInt32).toUInt32 >>> ((7 : Int32) &&& 31).toUInt32).toInt32))] [(.int ((((((p2.toUInt32 >>> ((7 : Int32) &&& 31).toUInt32).toInt32).toUInt32 >>> ((7 : Int32) &&& 31).toUInt32).toInt32).toUInt32 >>> ((7 : Int32) &&& 31).toUInt32).toInt32))])) _
            refine XS.bipush X25.here hx rfl (hb hby d1_30) ?_
            show Steps p.tables e below (T25.setTop (mkF m 32 #[.val (.ref r0), .val (.int p1), .val (.int p2), .val (.int ((((p1 + (1 : Int32)) + (1 : Int32)) + (1 : Int32)) + (1 : Int32))), .val (.int ((((((p2.toUInt32 >>> ((7 : Int32) &&& 31).toUInt32).toInt32).toUInt32 >>> ((7 : Int32) &&& 31).toUInt32).toInt32).toUInt32 >>> ((7 : Int32) &&& 31).toUInt32).toInt32))] [(.int (7 : Int32)), (.int ((((((p2.toUInt32 >>> ((7 : Int32) &&& 31).toUInt32).toInt32).toUInt32 >>> ((7 : Int32) &&& 31).toUInt32).toInt32).toUInt32 >>> ((7 : Int32) &&& 31).toUInt32).toInt32))])) _
            refine XS.iushr X25.here hx rfl (hb hby d1_32) rfl ?_
            show Steps p.tables e below (T25.setTop (mkF m 33 #[.val (.ref r0), .val (.int p1), .val (.int p2), .val (.int ((((p1 + (1 : Int32)) + (1 : Int32)) + (1 : Int32)) + (1 : Int32))), .val (.int ((((((p2.toUInt32 >>> ((7 : Int32) &&& 31).toUInt32).toInt32).toUInt32 >>> ((7 : Int32) &&& 31).toUInt32).toInt32).toUInt32 >>> ((7 : Int32) &&& 31).toUInt32).toInt32))] [(.int ((((((((p2.toUInt32 >>> ((7 : Int32) &&& 31).toUInt32).toInt32).toUInt32 >>> ((7 : Int32) &&& 31).toUInt32).toInt32).toUInt32 >>> ((7 : Int32) &&& 31).toUInt32).toInt32).toUInt32 >>> ((7 : Int32) &&& 31).toUInt32).toInt32))])) _
            refine XS.istore X25.here hx rfl (hb hby d1_33) rfl (l' := #[.val (.ref r0), .val (.int p1), .val (.int p2), .val (.int ((((p1 + (1 : Int32)) + (1 : Int32)) + (1 : Int32)) + (1 : Int32))), .val (.int ((((((((p2.toUInt32 >>> ((7 : Int32) &&& 31).toUInt32).toInt32).toUInt32 >>> ((7 : Int32) &&& 31).toUInt32).toInt32).toUInt32 >>> ((7 : Int32) &&& 31).toUInt32).toInt32).toUInt32 >>> ((7 : Int32) &&& 31).toUInt32).toInt32))]) rfl ?_
            show Steps p.tables e below (T25.setTop (mkF m 35 #[.val (.ref r0), .val (.int p1), .val (.int p2), .val (.int ((((p1 + (1 : Int32)) + (1 : Int32)) + (1 : Int32)) + (1 : Int32))), .val (.int ((((((((p2.toUInt32 >>> ((7 : Int32) &&& 31).toUInt32).toInt32).toUInt32 >>> ((7 : Int32) &&& 31).toUInt32).toInt32).toUInt32 >>> ((7 : Int32) &&& 31).toUInt32).toInt32).toUInt32 >>> ((7 : Int32) &&& 31).toUInt32).toInt32))] [])) _
            refine XS.goto X25.here hx rfl (pc0 := 35) (pc' := 5) rfl (hb hby d1_35) (by decide) (by decide) ?_
            show Steps p.tables e below (T25.setTop (mkF m 5 #[.val (.ref r0), .val (.int p1), .val (.int p2), .val (.int ((((p1 + (1 : Int32)) + (1 : Int32)) + (1 : Int32)) + (1 : Int32))), .val (.int ((((((((p2.toUInt32 >>> ((7 : Int32) &&& 31).toUInt32).toInt32).toUInt32 >>> ((7 : Int32) &&& 31).toUInt32).toInt32).toUInt32 >>> ((7 : Int32) &&& 31).toUInt32).toInt32).toUInt32 >>> ((7 : Int32) &&& 31).toUInt32).toInt32))] [])) _
            refine XS.iload X25.here hx rfl (hb hby d1_5) rfl ?_
            show Steps p.tables e below (T25.setTop (mkF m 7 #[.val (.ref r0), .val (.int p1), .val (.int p2), .val (.int ((((p1 + (1 : Int32)) + (1 : Int32)) + (1 : Int32)) + (1 : Int32))), .val (.int ((((((((p2.toUInt32 >>> ((7 : Int32) &&& 31).toUInt32).toInt32).toUInt32 >>> ((7 : Int32) &&& 31).toUInt32).toInt32).toUInt32 >>> ((7 : Int32) &&& 31).toUInt32).toInt32).toUInt32 >>> ((7 : Int32) &&& 31).toUInt32).toInt32))] [(.int ((((((((p2.toUInt32 >>> ((7 : Int32) &&& 31).toUInt32).toInt32).toUInt32 >>> ((7 : Int32) &&& 31).toUInt32).toInt32).toUInt32 >>> ((7 : Int32) &&& 31).toUInt32).toInt32).toUInt32 >>> ((7 : Int32) &&& 31).toUInt32).toInt32))])) _
            refine XS.bipush X25.here hx rfl (hb hby d1_7) ?_
            exact kt
          have hc9_30 : ¬ ((127 : Int32) < ((((((((p2.toUInt32 >>> ((7 : Int32) &&& 31).toUInt32).toInt32).toUInt32 >>> ((7 : Int32) &&& 31).toUInt32).toInt32).toUInt32 >>> ((7 : Int32) &&& 31).toUInt32).toInt32).toUInt32 >>> ((7 : Int32) &&& 31).toUInt32).toInt32)) := own_v4 p2
          obtain ⟨cl31, Ar31, q31, S31, M31, H31, G31⟩ := id f28
          have hin31 : ¬ (((((p1 + (1 : Int32)) + (1 : Int32)) + (1 : Int32)) + (1 : Int32)) < 0 ∨ cl31.slots.size ≤ (((((p1 + (1 : Int32)) + (1 : Int32)) + (1 : Int32)) + (1 : Int32))).toNatClampNeg) := inb_of S31 (own_inb b4 (by decide))
          obtain ⟨T32, h32, X32, e32, W32, st32⟩ := stB X25 hx hZ e25 Ar31 (j := ((((p1 + (1 : Int32)) + (1 : Int32)) + (1 : Int32)) + (1 : Int32))) hin31 (g := (mkF m 46 #[.val (.ref r0), .val (.int p1), .val (.int p2), .val (.int (((((p1 + (1 : Int32)) + (1 : Int32)) + (1 : Int32)) + (1 : Int32)) + (1 : Int32))), .val (.int ((((((((p2.toUInt32 >>> ((7 : Int32) &&& 31).toUInt32).toInt32).toUInt32 >>> ((7 : Int32) &&& 31).toUInt32).toInt32).toUInt32 >>> ((7 : Int32) &&& 31).toUInt32).toInt32).toUInt32 >>> ((7 : Int32) &&& 31).toUInt32).toInt32))] [(.int (((((((((p2.toUInt32 >>> ((7 : Int32) &&& 31).toUInt32).toInt32).toUInt32 >>> ((7 : Int32) &&& 31).toUInt32).toInt32).toUInt32 >>> ((7 : Int32) &&& 31).toUInt32).toInt32).toUInt32 >>> ((7 : Int32) &&& 31).toUInt32).toInt32).toInt8.toInt32)), (.int ((((p1 + (1 : Int32)) + (1 : Int32)) + (1 : Int32)) + (1 : Int32))), (.ref r0)])) rfl rfl (hb hby d1_46)
          have z33 : n0 ≤ h32.size := Nat.le_trans z26 (Nat.le_of_eq W32.size.symm)
          have kp34 : Keep h0 h32 [r0] := kp27.wr W32 (Or.inl (List.mem_of_getElem? (i := 0) rfl))
          have f35 : Arv Z h32 r0 kk .byte (10 : Int32) (((((vs.set (p1).toNatClampNeg (.int (nar .byte (((p2 &&& (127 : Int32)) ||| (128 : Int32)).toInt8.toInt32)))).set ((p1 + (1 : Int32))).toNatClampNeg (.int (nar .byte (((((p2.toUInt32 >>> ((7 : Int32) &&& 31).toUInt32).toInt32) &&& (127 : Int32)) ||| (128 : Int32)).toInt8.toInt32)))).set (((p1 + (1 : Int32)) + (1 : Int32))).toNatClampNeg (.int (nar .byte (((((((p2.toUInt32 >>> ((7 : Int32) &&& 31).toUInt32).toInt32).toUInt32 >>> ((7 : Int32) &&& 31).toUInt32).toInt32) &&& (127 : Int32)) ||| (128 : Int32)).toInt8.toInt32)))).set ((((p1 + (1 : Int32)) + (1 : Int32)) + (1 : Int32))).toNatClampNeg (.int (nar .byte (((((((((p2.toUInt32 >>> ((7 : Int32) &&& 31).toUInt32).toInt32).toUInt32 >>> ((7 : Int32) &&& 31).toUInt32).toInt32).toUInt32 >>> ((7 : Int32) &&& 31).toUInt32).toInt32) &&& (127 : Int32)) ||| (128 : Int32)).toInt8.toInt32)))).set (((((p1 + (1 : Int32)) + (1 : Int32)) + (1 : Int32)) + (1 : Int32))).toNatClampNeg (.int (nar .byte (((((((((p2.toUInt32 >>> ((7 : Int32) &&& 31).toUInt32).toInt32).toUInt32 >>> ((7 : Int32) &&& 31).toUInt32).toInt32).toUInt32 >>> ((7 : Int32) &&& 31).toUInt32).toInt32).toUInt32 >>> ((7 : Int32) &&& 31).toUInt32).toInt32).toInt8.toInt32)))) (.int (0 : Int32)) := Arv.set Ar31 q31 S31 M31 H31 G31 (fits_nar_byte _) W32 _ rfl (by (try simp only [List.length_set]); rw [hlen]; exact own_ix (own_inb b4 (by decide)))
          have N32 := Fr.snoc X32 N25 g_r0
          obtain ⟨fs, hr, hrun, hended, hW, hsame⟩ := X32.leave (v := some (.int (((((p1 + (1 : Int32)) + (1 : Int32)) + (1 : Int32)) + (1 : Int32)) + (1 : Int32)))) (fun h => by rw [Bd.returns] at h; cases h)
          refine ⟨_, _, G29 _ ?_, hrun, hended, _, _, rfl, ?_, ⟨_, rfl⟩, hW, hsame.mono (by decide) (by decide)⟩
          · skip
            show Steps p.tables e below (T25.setTop (mkF m 9 #[.val (.ref r0), .val (.int p1), .val (.int p2), .val (.int ((((p1 + (1 : Int32)) + (1 : Int32)) + (1 : Int32)) + (1 : Int32))), .val (.int ((((((((p2.toUInt32 >>> ((7 : Int32) &&& 31).toUInt32).toInt32).toUInt32 >>> ((7 : Int32) &&& 31).toUInt32).toInt32).toUInt32 >>> ((7 : Int32) &&& 31).toUInt32).toInt32).toUInt32 >>> ((7 : Int32) &&& 31).toUInt32).toInt32))] [(.int (127 : Int32)), (.int ((((((((p2.toUInt32 >>> ((7 : Int32) &&& 31).toUInt32).toInt32).toUInt32 >>> ((7 : Int32) &&& 31).toUInt32).toInt32).toUInt32 >>> ((7 : Int32) &&& 31).toUInt32).toInt32).toUInt32 >>> ((7 : Int32) &&& 31).toUInt32).toInt32))])) _
            refine XS.icmpYes X25.here hx rfl (pc0 := 9) (pc' := 38) rfl (hb hby d1_9) rfl (flt hc9_30).2.2.2 (by decide) (by decide) ?_
            show Steps p.tables e below (T25.setTop (mkF m 38 #[.val (.ref r0), .val (.int p1), .val (.int p2), .val (.int ((((p1 + (1 : Int32)) + (1 : Int32)) + (1 : Int32)) + (1 : Int32))), .val (.int ((((((((p2.toUInt32 >>> ((7 : Int32) &&& 31).toUInt32).toInt32).toUInt32 >>> ((7 : Int32) &&& 31).toUInt32).toInt32).toUInt32 >>> ((7 : Int32) &&& 31).toUInt32).toInt32).toUInt32 >>> ((7 : Int32) &&& 31).toUInt32).toInt32))] [])) _
            refine XS.aloadN X25.here hx rfl (hb hby d1_38) rfl rfl ?_
            show Steps p.tables e below (T25.setTop (mkF m 39 #[.val (.ref r0), .val (.int p1), .val (.int p2), .val (.int ((((p1 + (1 : Int32)) + (1 : Int32)) + (1 : Int32)) + (1 : Int32))), .val (.int ((((((((p2.toUInt32 >>> ((7 : Int32) &&& 31).toUInt32).toInt32).toUInt32 >>> ((7 : Int32) &&& 31).toUInt32).toInt32).toUInt32 >>> ((7 : Int32) &&& 31).toUInt32).toInt32).toUInt32 >>> ((7 : Int32) &&& 31).toUInt32).toInt32))] [(.ref r0)])) _
            refine XS.iloadN X25.here hx rfl (hb hby d1_39) rfl ?_
            show Steps p.tables e below (T25.setTop (mkF m 40 #[.val (.ref r0), .val (.int p1), .val (.int p2), .val (.int ((((p1 + (1 : Int32)) + (1 : Int32)) + (1 : Int32)) + (1 : Int32))), .val (.int ((((((((p2.toUInt32 >>> ((7 : Int32) &&& 31).toUInt32).toInt32).toUInt32 >>> ((7 : Int32) &&& 31).toUInt32).toInt32).toUInt32 >>> ((7 : Int32) &&& 31).toUInt32).toInt32).toUInt32 >>> ((7 : Int32) &&& 31).toUInt32).toInt32))] [(.int ((((p1 + (1 : Int32)) + (1 : Int32)) + (1 : Int32)) + (1 : Int32))), (.ref r0)])) _
            refine XS.iinc X25.here hx rfl (hb hby d1_40) rfl (l' := #[.val (.ref r0), .val (.int p1), .val (.int p2), .val (.int (((((p1 + (1 : Int32)) + (1 : Int32)) + (1 : Int32)) + (1 : Int32)) + (1 : Int32))), .val (.int ((((((((p2.toUInt32 >>> ((7 : Int32) &&& 31).toUInt32).toInt32).toUInt32 >>> ((7 : Int32) &&& 31).toUInt32).toInt32).toUInt32 >>> ((7 : Int32) &&& 31).toUInt32).toInt32).toUInt32 >>> ((7 : Int32) &&& 31).toUInt32).toInt32))]) rfl ?_
            show Steps p.tables e below (T25.setTop (mkF m 43 #[.val (.ref r0), .val (.int p1), .val (.int p2), .val (.int (((((p1 + (1 : Int32)) + (1 : Int32)) + (1 : Int32)) + (1 : Int32)) + (1 : Int32))), .val (.int ((((((((p2.toUInt32 >>> ((7 : Int32) &&& 31).toUInt32).toInt32).toUInt32 >>> ((7 : Int32) &&& 31).toUInt32).toInt32).toUInt32 >>> ((7 : Int32) &&& 31).toUInt32).toInt32).toUInt32 >>> ((7 : Int32) &&& 31).toUInt32).toInt32))] [(.int ((((p1 + (1 : Int32)) + (1 : Int32)) + (1 : Int32)) + (1 : Int32))), (.ref r0)])) _
            refine XS.iload X25.here hx rfl (hb hby d1_43) rfl ?_
            show Steps p.tables e below (T25.setTop (mkF m 45 #[.val (.ref r0), .val (.int p1), .val (.int p2), .val (.int (((((p1 + (1 : Int32)) + (1 : Int32)) + (1 : Int32)) + (1 : Int32)) + (1 : Int32))), .val (.int ((((((((p2.toUInt32 >>> ((7 : Int32) &&& 31).toUInt32).toInt32).toUInt32 >>> ((7 : Int32) &&& 31).toUInt32).toInt32).toUInt32 >>> ((7 : Int32) &&& 31).toUInt32).toInt32).toUInt32 >>> ((7 : Int32) &&& 31).toUInt32).toInt32))] [(.int ((((((((p2.toUInt32 >>> ((7 : Int32) &&& 31).toUInt32).toInt32).toUInt32 >>> ((7 : Int32) &&& 31).toUInt32).toInt32).toUInt32 >>> ((7 : Int32) &&& 31).toUInt32).toInt32).toUInt32 >>> ((7 : Int32) &&& 31).toUInt32).toInt32)), (.int ((((p1 + (1 : Int32)) + (1 : Int32)) + (1 : Int32)) + (1 : Int32))), (.ref r0)])) _
            refine XS.i2b X25.here hx rfl (hb hby d1_45) rfl ?_
            show Steps p.tables e below (T25.setTop (mkF m 46 #[.val (.ref r0), .val (.int p1), .val (.int p2), .val (.int (((((p1 + (1 : Int32)) + (1 : Int32)) + (1 : Int32)) + (1 : Int32)) + (1 : Int32))), .val (.int ((((((((p2.toUInt32 >>> ((7 : Int32) &&& 31).toUInt32).toInt32).toUInt32 >>> ((7 : Int32) &&& 31).toUInt32).toInt32).toUInt32 >>> ((7 : Int32) &&& 31).toUInt32).toInt32).toUInt32 >>> ((7 : Int32) &&& 31).toUInt32).toInt32))] [(.int (((((((((p2.toUInt32 >>> ((7 : Int32) &&& 31).toUInt32).toInt32).toUInt32 >>> ((7 : Int32) &&& 31).toUInt32).toInt32).toUInt32 >>> ((7 : Int32) &&& 31).toUInt32).toInt32).toUInt32 >>> ((7 : Int32) &&& 31).toUInt32).toInt32).toInt8.toInt32)), (.int ((((p1 + (1 : Int32)) + (1 : Int32)) + (1 : Int32)) + (1 : Int32))), (.ref r0)])) _
            refine st32 _ ?_
            show Steps p.tables e below (T32.setTop (mkF m 47 #[.val (.ref r0), .val (.int p1), .val (.int p2), .val (.int (((((p1 + (1 : Int32)) + (1 : Int32)) + (1 : Int32)) + (1 : Int32)) + (1 : Int32))), .val (.int ((((((((p2.toUInt32 >>> ((7 : Int32) &&& 31).toUInt32).toInt32).toUInt32 >>> ((7 : Int32) &&& 31).toUInt32).toInt32).toUInt32 >>> ((7 : Int32) &&& 31).toUInt32).toInt32).toUInt32 >>> ((7 : Int32) &&& 31).toUInt32).toInt32))] [])) _
            refine XS.iloadN X32.here hx rfl (hb hby d1_47) rfl ?_
            show Steps p.tables e below (T32.setTop (mkF m 48 #[.val (.ref r0), .val (.int p1), .val (.int p2), .val (.int (((((p1 + (1 : Int32)) + (1 : Int32)) + (1 : Int32)) + (1 : Int32)) + (1 : Int32))), .val (.int ((((((((p2.toUInt32 >>> ((7 : Int32) &&& 31).toUInt32).toInt32).toUInt32 >>> ((7 : Int32) &&& 31).toUInt32).toInt32).toUInt32 >>> ((7 : Int32) &&& 31).toUInt32).toInt32).toUInt32 >>> ((7 : Int32) &&& 31).toUInt32).toInt32))] [(.int (((((p1 + (1 : Int32)) + (1 : Int32)) + (1 : Int32)) + (1 : Int32)) + (1 : Int32)))])) _
            exact retI X32 hx Bd.returns (hb hby d1_48) hr
          · show Q1 Z r0 p1 p2 kk vs h0 n0 _ T32.heap _
            rw [e32]
            refine ⟨by rw [f1, if_pos hc9_2, if_pos hc9_9, if_pos hc9_16, if_pos hc9_23], N32, kp34, ?_⟩
            rw [fput, if_pos hc9_2, if_pos hc9_9, if_pos hc9_16, if_pos hc9_23]
            exact f35
        · skip
          obtain ⟨cl36, Ar36, q36, S36, M36, H36, G36⟩ := id f21
          have hin36 : ¬ ((((p1 + (1 : Int32)) + (1 : Int32)) + (1 : Int32)) < 0 ∨ cl36.slots.size ≤ ((((p1 + (1 : Int32)) + (1 : Int32)) + (1 : Int32))).toNatClampNeg) := inb_of S36 (own_inb b3 (by decide))
          obtain ⟨T37, h37, X37, e37, W37, st37⟩ := stB X18 hx hZ e18 Ar36 (j := (((p1 + (1 : Int32)) + (1 : Int32)) + (1 : Int32))) hin36 (g := (mkF m 46 #[.val (.ref r0), .val (.int p1), .val (.int p2), .val (.int ((((p1 + (1 : Int32)) + (1 : Int32)) + (1 : Int32)) + (1 : Int32))), .val (.int ((((((p2.toUInt32 >>> ((7 : Int32) &&& 31).toUInt32).toInt32).toUInt32 >>> ((7 : Int32) &&& 31).toUInt32).toInt32).toUInt32 >>> ((7 : Int32) &&& 31).toUInt32).toInt32))] [(.int (((((((p2.toUInt32 >>> ((7 : Int32) &&& 31).toUInt32).toInt32).toUInt32 >>> ((7 : Int32) &&& 31).toUInt32).toInt32).toUInt32 >>> ((7 : Int32) &&& 31).toUInt32).toInt32).toInt8.toInt32)), (.int (((p1 + (1 : Int32)) + (1 : Int32)) + (1 : Int32))), (.ref r0)])) rfl rfl (hb hby d1_46)
          have z38 : n0 ≤ h37.size := Nat.le_trans z19 (Nat.le_of_eq W37.size.symm)
          have kp39 : Keep h0 h37 [r0] := kp20.wr W37 (Or.inl (List.mem_of_getElem? (i := 0) rfl))
          have f40 : Arv Z h37 r0 kk .byte (10 : Int32) ((((vs.set (p1).toNatClampNeg (.int (nar .byte (((p2 &&& (127 : Int32)) ||| (128 : Int32)).toInt8.toInt32)))).set ((p1 + (1 : Int32))).toNatClampNeg (.int (nar .byte (((((p2.toUInt32 >>> ((7 : Int32) &&& 31).toUInt32).toInt32) &&& (127 : Int32)) ||| (128 : Int32)).toInt8.toInt32)))).set (((p1 + (1 : Int32)) + (1 : Int32))).toNatClampNeg (.int (nar .byte (((((((p2.toUInt32 >>> ((7 : Int32) &&& 31).toUInt32).toInt32).toUInt32 >>> ((7 : Int32) &&& 31).toUInt32).toInt32) &&& (127 : Int32)) ||| (128 : Int32)).toInt8.toInt32)))).set ((((p1 + (1 : Int32)) + (1 : Int32)) + (1 : Int32))).toNatClampNeg (.int (nar .byte (((((((p2.toUInt32 >>> ((7 : Int32) &&& 31).toUInt32).toInt32).toUInt32 >>> ((7 : Int32) &&& 31).toUInt32).toInt32).toUInt32 >>> ((7 : Int32) &&& 31).toUInt32).toInt32).toInt8.toInt32)))) (.int (0 : Int32)) := Arv.set Ar36 q36 S36 M36 H36 G36 (fits_nar_byte _) W37 _ rfl (by (try simp only [List.length_set]); rw [hlen]; exact own_ix (own_inb b3 (by decide)))
          have N37 := Fr.snoc X37 N18 g_r0
          obtain ⟨fs, hr, hrun, hended, hW, hsame⟩ := X37.leave (v := some (.int ((((p1 + (1 : Int32)) + (1 : Int32)) + (1 : Int32)) + (1 : Int32)))) (fun h => by rw [Bd.returns] at h; cases h)
          refine ⟨_, _, G22 _ ?_, hrun, hended, _, _, rfl, ?_, ⟨_, rfl⟩, hW, hsame.mono (by decide) (by decide)⟩
          · skip
            show Steps p.tables e below (T18.setTop (mkF m 9 #[.val (.ref r0), .val (.int p1), .val (.int p2), .val (.int (((p1 + (1 : Int32)) + (1 : Int32)) + (1 : Int32))), .val (.int ((((((p2.toUInt32 >>> ((7 : Int32) &&& 31).toUInt32).toInt32).toUInt32 >>> ((7 : Int32) &&& 31).toUInt32).toInt32).toUInt32 >>> ((7 : Int32) &&& 31).toUInt32).toInt32))] [(.int (127 : Int32)), (.int ((((((p2.toUInt32 >>> ((7 : Int32) &&& 31).toUInt32).toInt32).toUInt32 >>> ((7 : Int32) &&& 31).toUInt32).toInt32).toUInt32 >>> ((7 : Int32) &&& 31).toUInt32).toInt32))])) _
            refine XS.icmpYes X18.here hx rfl (pc0 := 9) (pc' := 38) rfl (hb hby d1_9) rfl (flt hc9_23).2.2.2 (by decide) (by decide) ?_
            show Steps p.tables e below (T18.setTop (mkF m 38 #[.val (.ref r0), .val (.int p1), .val (.int p2), .val (.int (((p1 + (1 : Int32)) + (1 : Int32)) + (1 : Int32))), .val (.int ((((((p2.toUInt32 >>> ((7 : Int32) &&& 31).toUInt32).toInt32).toUInt32 >>> ((7 : Int32) &&& 31).toUInt32).toInt32).toUInt32 >>> ((7 : Int32) &&& 31).toUInt32).toInt32))] [])) _
            refine XS.aloadN X18.here hx rfl (hb hby d1_38) rfl rfl ?_
            show Steps p.tables e below (T18.setTop (mkF m 39 #[.val (.ref r0), .val (.int p1), .val (.int p2), .val (.int (((p1 + (1 : Int32)) + (1 : Int32)) + (1 : Int32))), .val (.int ((((((p2.toUInt32 >>> ((7 : Int32) &&& 31).toUInt32).toInt32).toUInt32 >>> ((7 : Int32) &&& 31).toUInt32).toInt32).toUInt32 >>> ((7 : Int32) &&& 31).toUInt32).toInt32))] [(.ref r0)])) _
            refine XS.iloadN X18.here hx rfl (hb hby d1_39) rfl ?_
            show Steps p.tables e below (T18.setTop (mkF m 40 #[.val (.ref r0), .val (.int p1), .val (.int p2), .val (.int (((p1 + (1 : Int32)) + (1 : Int32)) + (1 : Int32))), .val (.int ((((((p2.toUInt32 >>> ((7 : Int32) &&& 31).toUInt32).toInt32).toUInt32 >>> ((7 : Int32) &&& 31).toUInt32).toInt32).toUInt32 >>> ((7 : Int32) &&& 31).toUInt32).toInt32))] [(.int (((p1 + (1 : Int32)) + (1 : Int32)) + (1 : Int32))), (.ref r0)])) _
            refine XS.iinc X18.here hx rfl (hb hby d1_40) rfl (l' := #[.val (.ref r0), .val (.int p1), .val (.int p2), .val (.int ((((p1 + (1 : Int32)) + (1 : Int32)) + (1 : Int32)) + (1 : Int32))), .val (.int ((((((p2.toUInt32 >>> ((7 : Int32) &&& 31).toUInt32).toInt32).toUInt32 >>> ((7 : Int32) &&& 31).toUInt32).toInt32).toUInt32 >>> ((7 : Int32) &&& 31).toUInt32).toInt32))]) rfl ?_
            show Steps p.tables e below (T18.setTop (mkF m 43 #[.val (.ref r0), .val (.int p1), .val (.int p2), .val (.int ((((p1 + (1 : Int32)) + (1 : Int32)) + (1 : Int32)) + (1 : Int32))), .val (.int ((((((p2.toUInt32 >>> ((7 : Int32) &&& 31).toUInt32).toInt32).toUInt32 >>> ((7 : Int32) &&& 31).toUInt32).toInt32).toUInt32 >>> ((7 : Int32) &&& 31).toUInt32).toInt32))] [(.int (((p1 + (1 : Int32)) + (1 : Int32)) + (1 : Int32))), (.ref r0)])) _
            refine XS.iload X18.here hx rfl (hb hby d1_43) rfl ?_
            show Steps p.tables e below (T18.setTop (mkF m 45 #[.val (.ref r0), .val (.int p1), .val (.int p2), .val (.int ((((p1 + (1 : Int32)) + (1 : Int32)) + (1 : Int32)) + (1 : Int32))), .val (.int ((((((p2.toUInt32 >>> ((7 : Int32) &&& 31).toUInt32).toInt32).toUInt32 >>> ((7 : Int32) &&& 31).toUInt32).toInt32).toUInt32 >>> ((7 : Int32) &&& 31).toUInt32).toInt32))] [(.int ((((((p2.toUInt32 >>> ((7 : Int32) &&& 31).toUInt32).toInt32).toUInt32 >>> ((7 : Int32) &&& 31).toUInt32).toInt32).toUInt32 >>> ((7 : Int32) &&& 31).toUInt32).toInt32)), (.int (((p1 + (1 : Int32)) + (1 : Int32)) + (1 : Int32))), (.ref r0)])) _
            refine XS.i2b X18.here hx rfl (hb hby d1_45) rfl ?_
            show Steps p.tables e below (T18.setTop (mkF m 46 #[.val (.ref r0), .val (.int p1), .val (.int p2), .val (.int ((((p1 + (1 : Int32)) + (1 : Int32)) + (1 : Int32)) + (1 : Int32))), .val (.int ((((((p2.toUInt32 >>> ((7 : Int32) &&& 31).toUInt32).toInt32).toUInt32 >>> ((7 : Int32) &&& 31).toUInt32).toInt32).toUInt32 >>> ((7 : Int32) &&& 31).toUInt32).toInt32))] [(.int (((((((p2.toUInt32 >>> ((7 : Int32) &&& 31).toUInt32).toInt32).toUInt32 >>> ((7 : Int32) &&& 31).toUInt32).toInt32).toUInt32 >>> ((7 : Int32) &&& 31).toUInt32).toInt32).toInt8.toInt32)), (.int (((p1 + (1 : Int32)) + (1 : Int32)) + (1 : Int32))), (.ref r0)])) _
            refine st37 _ ?_
            show Steps p.tables e below (T37.setTop (mkF m 47 #[.val (.ref r0), .val (.int p1), .val (.int p2), .val (.int ((((p1 + (1 : Int32)) + (1 : Int32)) + (1 : Int32)) + (1 : Int32))), .val (.int ((((((p2.toUInt32 >>> ((7 : Int32) &&& 31).toUInt32).toInt32).toUInt32 >>> ((7 : Int32) &&& 31).toUInt32).toInt32).toUInt32 >>> ((7 : Int32) &&& 31).toUInt32).toInt32))] [])) _
            refine XS.iloadN X37.here hx rfl (hb hby d1_47) rfl ?_
            show Steps p.tables e below (T37.setTop (mkF m 48 #[.val (.ref r0), .val (.int p1), .val (.int p2), .val (.int ((((p1 + (1 : Int32)) + (1 : Int32)) + (1 : Int32)) + (1 : Int32))), .val (.int ((((((p2.toUInt32 >>> ((7 : Int32) &&& 31).toUInt32).toInt32).toUInt32 >>> ((7 : Int32) &&& 31).toUInt32).toInt32).toUInt32 >>> ((7 : Int32) &&& 31).toUInt32).toInt32))] [(.int ((((p1 + (1 : Int32)) + (1 : Int32)) + (1 : Int32)) + (1 : Int32)))])) _
            exact retI X37 hx Bd.returns (hb hby d1_48) hr
          · show Q1 Z r0 p1 p2 kk vs h0 n0 _ T37.heap _
            rw [e37]
            refine ⟨by rw [f1, if_pos hc9_2, if_pos hc9_9, if_pos hc9_16, if_neg hc9_23], N37, kp39, ?_⟩
            rw [fput, if_pos hc9_2, if_pos hc9_9, if_pos hc9_16, if_neg hc9_23]
            exact f40
      · skip
        obtain ⟨cl41, Ar41, q41, S41, M41, H41, G41⟩ := id f14
        have hin41 : ¬ (((p1 + (1 : Int32)) + (1 : Int32)) < 0 ∨ cl41.slots.size ≤ (((p1 + (1 : Int32)) + (1 : Int32))).toNatClampNeg) := inb_of S41 (own_inb b2 (by decide))
        obtain ⟨T42, h42, X42, e42, W42, st42⟩ := stB X11 hx hZ e11 Ar41 (j := ((p1 + (1 : Int32)) + (1 : Int32))) hin41 (g := (mkF m 46 #[.val (.ref r0), .val (.int p1), .val (.int p2), .val (.int (((p1 + (1 : Int32)) + (1 : Int32)) + (1 : Int32))), .val (.int ((((p2.toUInt32 >>> ((7 : Int32) &&& 31).toUInt32).toInt32).toUInt32 >>> ((7 : Int32) &&& 31).toUInt32).toInt32))] [(.int (((((p2.toUInt32 >>> ((7 : Int32) &&& 31).toUInt32).toInt32).toUInt32 >>> ((7 : Int32) &&& 31).toUInt32).toInt32).toInt8.toInt32)), (.int ((p1 + (1 : Int32)) + (1 : Int32))), (.ref r0)])) rfl rfl (hb hby d1_46)
        have z43 : n0 ≤ h42.size := Nat.le_trans z12 (Nat.le_of_eq W42.size.symm)
        have kp44 : Keep h0 h42 [r0] := kp13.wr W42 (Or.inl (List.mem_of_getElem? (i := 0) rfl))
        have f45 : Arv Z h42 r0 kk .byte (10 : Int32) (((vs.set (p1).toNatClampNeg (.int (nar .byte (((p2 &&& (127 : Int32)) ||| (128 : Int32)).toInt8.toInt32)))).set ((p1 + (1 : Int32))).toNatClampNeg (.int (nar .byte (((((p2.toUInt32 >>> ((7 : Int32) &&& 31).toUInt32).toInt32) &&& (127 : Int32)) ||| (128 : Int32)).toInt8.toInt32)))).set (((p1 + (1 : Int32)) + (1 : Int32))).toNatClampNeg (.int (nar .byte (((((p2.toUInt32 >>> ((7 : Int32) &&& 31).toUInt32).toInt32).toUInt32 >>> ((7 : Int32) &&& 31).toUInt32).toInt32).toInt8.toInt32)))) (.int (0 : Int32)) := Arv.set Ar41 q41 S41 M41 H41 G41 (fits_nar_byte _) W42 _ rfl (by (try simp only [List.length_set]); rw [hlen]; exact own_ix (own_inb b2 (by decide)))
        have N42 := Fr.snoc X42 N11 g_r0
        obtain ⟨fs, hr, hrun, hended, hW, hsame⟩ := X42.leave (v := some (.int (((p1 + (1 : Int32)) + (1 : Int32)) + (1 : Int32)))) (fun h => by rw [Bd.returns] at h; cases h)
        refine ⟨_, _, G15 _ ?_, hrun, hended, _, _, rfl, ?_, ⟨_, rfl⟩, hW, hsame.mono (by decide) (by decide)⟩
        · skip
          show Steps p.tables e below (T11.setTop (mkF m 9 #[.val (.ref r0), .val (.int p1), .val (.int p2), .val (.int ((p1 + (1 : Int32)) + (1 : Int32))), .val (.int ((((p2.toUInt32 >>> ((7 : Int32) &&& 31).toUInt32).toInt32).toUInt32 >>> ((7 : Int32) &&& 31).toUInt32).toInt32))] [(.int (127 : Int32)), (.int ((((p2.toUInt32 >>> ((7 : Int32) &&& 31).toUInt32).toInt32).toUInt32 >>> ((7 : Int32) &&& 31).toUInt32).toInt32))])) _
          refine XS.icmpYes X11.here hx rfl (pc0 := 9) (pc' := 38) rfl (hb hby d1_9) rfl (flt hc9_16).2.2.2 (by decide) (by decide) ?_
          show Steps p.tables e below (T11.setTop (mkF m 38 #[.val (.ref r0), .val (.int p1), .val (.int p2), .val (.int ((p1 + (1 : Int32)) + (1 : Int32))), .val (.int ((((p2.toUInt32 >>> ((7 : Int32) &&& 31).toUInt32).toInt32).toUInt32 >>> ((7 : Int32) &&& 31).toUInt32).toInt32))] [])) _
          refine XS.aloadN X11.here hx rfl (hb hby d1_38) rfl rfl ?_
          show Steps p.tables e below (T11.setTop (mkF m 39 #[.val (.ref r0), .val (.int p1), .val (.int p2), .val (.int ((p1 + (1 : Int32)) + (1 : Int32))), .val (.int ((((p2.toUInt32 >>> ((7 : Int32) &&& 31).toUInt32).toInt32).toUInt32 >>> ((7 : Int32) &&& 31).toUInt32).toInt32))] [(.ref r0)])) _
          refine XS.iloadN X11.here hx rfl (hb hby d1_39) rfl ?_
          show Steps p.tables e below (T11.setTop (mkF m 40 #[.val (.ref r0), .val (.int p1), .val (.int p2), .val (.int ((p1 + (1 : Int32)) + (1 : Int32))), .val (.int ((((p2.toUInt32 >>> ((7 : Int32) &&& 31).toUInt32).toInt32).toUInt32 >>> ((7 : Int32) &&& 31).toUInt32).toInt32))] [(.int ((p1 + (1 : Int32)) + (1 : Int32))), (.ref r0)])) _
          refine XS.iinc X11.here hx rfl (hb hby d1_40) rfl (l' := #[.val (.ref r0), .val (.int p1), .val (.int p2), .val (.int (((p1 + (1 : Int32)) + (1 : Int32)) + (1 : Int32))), .val (.int ((((p2.toUInt32 >>> ((7 : Int32) &&& 31).toUInt32).toInt32).toUInt32 >>> ((7 : Int32) &&& 31).toUInt32).toInt32))]) rfl ?_
          show Steps p.tables e below (T11.setTop (mkF m 43 #[.val (.ref r0), .val (.int p1), .val (.int p2), .val (.int (((p1 + (1 : Int32)) + (1 : Int32)) + (1 : Int32))), .val (.int ((((p2.toUInt32 >>> ((7 : Int32) &&& 31).toUInt32).toInt32).toUInt32 >>> ((7 : Int32) &&& 31).toUInt32).toInt32))] [(.int ((p1 + (1 : Int32)) + (1 : Int32))), (.ref r0)])) _
          refine XS.iload X11.here hx rfl (hb hby d1_43) rfl ?_
          show Steps p.tables e below (T11.setTop (mkF m 45 #[.val (.ref r0), .val (.int p1), .val (.int p2), .val (.int (((p1 + (1 : Int32)) + (1 : Int32)) + (1 : Int32))), .val (.int ((((p2.toUInt32 >>> ((7 : Int32) &&& 31).toUInt32).toInt32).toUInt32 >>> ((7 : Int32) &&& 31).toUInt32).toInt32))] [(.int ((((p2.toUInt32 >>> ((7 : Int32) &&& 31).toUInt32).toInt32).toUInt32 >>> ((7 : Int32) &&& 31).toUInt32).toInt32)), (.int ((p1 + (1 : Int32)) + (1 : Int32))), (.ref r0)])) _
          refine XS.i2b X11.here hx rfl (hb hby d1_45) rfl ?_
          show Steps p.tables e below (T11.setTop (mkF m 46 #[.val (.ref r0), .val (.int p1), .val (.int p2), .val (.int (((p1 + (1 : Int32)) + (1 : Int32)) + (1 : Int32))), .val (.int ((((p2.toUInt32 >>> ((7 : Int32) &&& 31).toUInt32).toInt32).toUInt32 >>> ((7 : Int32) &&& 31).toUInt32).toInt32))] [(.int (((((p2.toUInt32 >>> ((7 : Int32) &&& 31).toUInt32).toInt32).toUInt32 >>> ((7 : Int32) &&& 31).toUInt32).toInt32).toInt8.toInt32)), (.int ((p1 + (1 : Int32)) + (1 : Int32))), (.ref r0)])) _
          refine st42 _ ?_
          show Steps p.tables e below (T42.setTop (mkF m 47 #[.val (.ref r0), .val (.int p1), .val (.int p2), .val (.int (((p1 + (1 : Int32)) + (1 : Int32)) + (1 : Int32))), .val (.int ((((p2.toUInt32 >>> ((7 : Int32) &&& 31).toUInt32).toInt32).toUInt32 >>> ((7 : Int32) &&& 31).toUInt32).toInt32))] [])) _
          refine XS.iloadN X42.here hx rfl (hb hby d1_47) rfl ?_
          show Steps p.tables e below (T42.setTop (mkF m 48 #[.val (.ref r0), .val (.int p1), .val (.int p2), .val (.int (((p1 + (1 : Int32)) + (1 : Int32)) + (1 : Int32))), .val (.int ((((p2.toUInt32 >>> ((7 : Int32) &&& 31).toUInt32).toInt32).toUInt32 >>> ((7 : Int32) &&& 31).toUInt32).toInt32))] [(.int (((p1 + (1 : Int32)) + (1 : Int32)) + (1 : Int32)))])) _
          exact retI X42 hx Bd.returns (hb hby d1_48) hr
        · show Q1 Z r0 p1 p2 kk vs h0 n0 _ T42.heap _
          rw [e42]
          refine ⟨by rw [f1, if_pos hc9_2, if_pos hc9_9, if_neg hc9_16], N42, kp44, ?_⟩
          rw [fput, if_pos hc9_2, if_pos hc9_9, if_neg hc9_16]
          exact f45
    · skip
      obtain ⟨cl46, Ar46, q46, S46, M46, H46, G46⟩ := id f7
      have hin46 : ¬ ((p1 + (1 : Int32)) < 0 ∨ cl46.slots.size ≤ ((p1 + (1 : Int32))).toNatClampNeg) := inb_of S46 (own_inb b1 (by decide))
      obtain ⟨T47, h47, X47, e47, W47, st47⟩ := stB X4 hx hZ e4 Ar46 (j := (p1 + (1 : Int32))) hin46 (g := (mkF m 46 #[.val (.ref r0), .val (.int p1), .val (.int p2), .val (.int ((p1 + (1 : Int32)) + (1 : Int32))), .val (.int ((p2.toUInt32 >>> ((7 : Int32) &&& 31).toUInt32).toInt32))] [(.int (((p2.toUInt32 >>> ((7 : Int32) &&& 31).toUInt32).toInt32).toInt8.toInt32)), (.int (p1 + (1 : Int32))), (.ref r0)])) rfl rfl (hb hby d1_46)
      have z48 : n0 ≤ h47.size := Nat.le_trans z5 (Nat.le_of_eq W47.size.symm)
      have kp49 : Keep h0 h47 [r0] := kp6.wr W47 (Or.inl (List.mem_of_getElem? (i := 0) rfl))
      have f50 : Arv Z h47 r0 kk .byte (10 : Int32) ((vs.set (p1).toNatClampNeg (.int (nar .byte (((p2 &&& (127 : Int32)) ||| (128 : Int32)).toInt8.toInt32)))).set ((p1 + (1 : Int32))).toNatClampNeg (.int (nar .byte (((p2.toUInt32 >>> ((7 : Int32) &&& 31).toUInt32).toInt32).toInt8.toInt32)))) (.int (0 : Int32)) := Arv.set Ar46 q46 S46 M46 H46 G46 (fits_nar_byte _) W47 _ rfl (by (try simp only [List.length_set]); rw [hlen]; exact own_ix (own_inb b1 (by decide)))
      have N47 := Fr.snoc X47 N4 g_r0
      obtain ⟨fs, hr, hrun, hended, hW, hsame⟩ := X47.leave (v := some (.int ((p1 + (1 : Int32)) + (1 : Int32)))) (fun h => by rw [Bd.returns] at h; cases h)
      refine ⟨_, _, G8 _ ?_, hrun, hended, _, _, rfl, ?_, ⟨_, rfl⟩, hW, hsame.mono (by decide) (by decide)⟩
      · skip
        show Steps p.tables e below (T4.setTop (mkF m 9 #[.val (.ref r0), .val (.int p1), .val (.int p2), .val (.int (p1 + (1 : Int32))), .val (.int ((p2.toUInt32 >>> ((7 : Int32) &&& 31).toUInt32).toInt32))] [(.int (127 : Int32)), (.int ((p2.toUInt32 >>> ((7 : Int32) &&& 31).toUInt32).toInt32))])) _
        refine XS.icmpYes X4.here hx rfl (pc0 := 9) (pc' := 38) rfl (hb hby d1_9) rfl (flt hc9_9).2.2.2 (by decide) (by decide) ?_
        show Steps p.tables e below (T4.setTop (mkF m 38 #[.val (.ref r0), .val (.int p1), .val (.int p2), .val (.int (p1 + (1 : Int32))), .val (.int ((p2.toUInt32 >>> ((7 : Int32) &&& 31).toUInt32).toInt32))] [])) _
        refine XS.aloadN X4.here hx rfl (hb hby d1_38) rfl rfl ?_
        show Steps p.tables e below (T4.setTop (mkF m 39 #[.val (.ref r0), .val (.int p1), .val (.int p2), .val (.int (p1 + (1 : Int32))), .val (.int ((p2.toUInt32 >>> ((7 : Int32) &&& 31).toUInt32).toInt32))] [(.ref r0)])) _
        refine XS.iloadN X4.here hx rfl (hb hby d1_39) rfl ?_
        show Steps p.tables e below (T4.setTop (mkF m 40 #[.val (.ref r0), .val (.int p1), .val (.int p2), .val (.int (p1 + (1 : Int32))), .val (.int ((p2.toUInt32 >>> ((7 : Int32) &&& 31).toUInt32).toInt32))] [(.int (p1 + (1 : Int32))), (.ref r0)])) _
        refine XS.iinc X4.here hx rfl (hb hby d1_40) rfl (l' := #[.val (.ref r0), .val (.int p1), .val (.int p2), .val (.int ((p1 + (1 : Int32)) + (1 : Int32))), .val (.int ((p2.toUInt32 >>> ((7 : Int32) &&& 31).toUInt32).toInt32))]) rfl ?_
        show Steps p.tables e below (T4.setTop (mkF m 43 #[.val (.ref r0), .val (.int p1), .val (.int p2), .val (.int ((p1 + (1 : Int32)) + (1 : Int32))), .val (.int ((p2.toUInt32 >>> ((7 : Int32) &&& 31).toUInt32).toInt32))] [(.int (p1 + (1 : Int32))), (.ref r0)])) _
        refine XS.iload X4.here hx rfl (hb hby d1_43) rfl ?_
        show Steps p.tables e below (T4.setTop (mkF m 45 #[.val (.ref r0), .val (.int p1), .val (.int p2), .val (.int ((p1 + (1 : Int32)) + (1 : Int32))), .val (.int ((p2.toUInt32 >>> ((7 : Int32) &&& 31).toUInt32).toInt32))] [(.int ((p2.toUInt32 >>> ((7 : Int32) &&& 31).toUInt32).toInt32)), (.int (p1 + (1 : Int32))), (.ref r0)])) _
        refine XS.i2b X4.here hx rfl (hb hby d1_45) rfl ?_
        show Steps p.tables e below (T4.setTop (mkF m 46 #[.val (.ref r0), .val (.int p1), .val (.int p2), .val (.int ((p1 + (1 : Int32)) + (1 : Int32))), .val (.int ((p2.toUInt32 >>> ((7 : Int32) &&& 31).toUInt32).toInt32))] [(.int (((p2.toUInt32 >>> ((7 : Int32) &&& 31).toUInt32).toInt32).toInt8.toInt32)), (.int (p1 + (1 : Int32))), (.ref r0)])) _
        refine st47 _ ?_
        show Steps p.tables e below (T47.setTop (mkF m 47 #[.val (.ref r0), .val (.int p1), .val (.int p2), .val (.int ((p1 + (1 : Int32)) + (1 : Int32))), .val (.int ((p2.toUInt32 >>> ((7 : Int32) &&& 31).toUInt32).toInt32))] [])) _
        refine XS.iloadN X47.here hx rfl (hb hby d1_47) rfl ?_
        show Steps p.tables e below (T47.setTop (mkF m 48 #[.val (.ref r0), .val (.int p1), .val (.int p2), .val (.int ((p1 + (1 : Int32)) + (1 : Int32))), .val (.int ((p2.toUInt32 >>> ((7 : Int32) &&& 31).toUInt32).toInt32))] [(.int ((p1 + (1 : Int32)) + (1 : Int32)))])) _
        exact retI X47 hx Bd.returns (hb hby d1_48) hr
      · show Q1 Z r0 p1 p2 kk vs h0 n0 _ T47.heap _
        rw [e47]
        refine ⟨by rw [f1, if_pos hc9_2, if_neg hc9_9], N47, kp49, ?_⟩
        rw [fput, if_pos hc9_2, if_neg hc9_9]
        exact f50
  · skip
    obtain ⟨cl51, Ar51, q51, S51, M51, H51, G51⟩ := id AV
    have hin51 : ¬ (p1 < 0 ∨ cl51.slots.size ≤ (p1).toNatClampNeg) := inb_of S51 (own_inb b0 (by decide))
    obtain ⟨T52, h52, X52, e52, W52, st52⟩ := stB X0 hx hZ e0 Ar51 (j := p1) hin51 (g := (mkF m 46 #[.val (.ref r0), .val (.int p1), .val (.int p2), .val (.int (p1 + (1 : Int32))), .val (.int p2)] [(.int (p2.toInt8.toInt32)), (.int p1), (.ref r0)])) rfl rfl (hb hby d1_46)
    have z53 : n0 ≤ h52.size := Nat.le_trans Z0 (Nat.le_of_eq W52.size.symm)
    have kp54 : Keep h0 h52 [r0] := kp0.wr W52 (Or.inl (List.mem_of_getElem? (i := 0) rfl))
    have f55 : Arv Z h52 r0 kk .byte (10 : Int32) (vs.set (p1).toNatClampNeg (.int (nar .byte (p2.toInt8.toInt32)))) (.int (0 : Int32)) := Arv.set Ar51 q51 S51 M51 H51 G51 (fits_nar_byte _) W52 _ rfl (by (try simp only [List.length_set]); rw [hlen]; exact own_ix (own_inb b0 (by decide)))
    have N52 := Fr.snoc X52 N0 g_r0
    obtain ⟨fs, hr, hrun, hended, hW, hsame⟩ := X52.leave (v := some (.int (p1 + (1 : Int32)))) (fun h => by rw [Bd.returns] at h; cases h)
    refine ⟨_, _, G1 _ ?_, hrun, hended, _, _, rfl, ?_, ⟨_, rfl⟩, hW, hsame.mono (by decide) (by decide)⟩
    · skip
      show Steps p.tables e below (s₁.setTop (mkF m 9 #[.val (.ref r0), .val (.int p1), .val (.int p2), .val (.int p1), .val (.int p2)] [(.int (127 : Int32)), (.int p2)])) _
      refine XS.icmpYes X0.here hx rfl (pc0 := 9) (pc' := 38) rfl (hb hby d1_9) rfl (flt hc9_2).2.2.2 (by decide) (by decide) ?_
      show Steps p.tables e below (s₁.setTop (mkF m 38 #[.val (.ref r0), .val (.int p1), .val (.int p2), .val (.int p1), .val (.int p2)] [])) _
      refine XS.aloadN X0.here hx rfl (hb hby d1_38) rfl rfl ?_
      show Steps p.tables e below (s₁.setTop (mkF m 39 #[.val (.ref r0), .val (.int p1), .val (.int p2), .val (.int p1), .val (.int p2)] [(.ref r0)])) _
      refine XS.iloadN X0.here hx rfl (hb hby d1_39) rfl ?_
      show Steps p.tables e below (s₁.setTop (mkF m 40 #[.val (.ref r0), .val (.int p1), .val (.int p2), .val (.int p1), .val (.int p2)] [(.int p1), (.ref r0)])) _
      refine XS.iinc X0.here hx rfl (hb hby d1_40) rfl (l' := #[.val (.ref r0), .val (.int p1), .val (.int p2), .val (.int (p1 + (1 : Int32))), .val (.int p2)]) rfl ?_
      show Steps p.tables e below (s₁.setTop (mkF m 43 #[.val (.ref r0), .val (.int p1), .val (.int p2), .val (.int (p1 + (1 : Int32))), .val (.int p2)] [(.int p1), (.ref r0)])) _
      refine XS.iload X0.here hx rfl (hb hby d1_43) rfl ?_
      show Steps p.tables e below (s₁.setTop (mkF m 45 #[.val (.ref r0), .val (.int p1), .val (.int p2), .val (.int (p1 + (1 : Int32))), .val (.int p2)] [(.int p2), (.int p1), (.ref r0)])) _
      refine XS.i2b X0.here hx rfl (hb hby d1_45) rfl ?_
      show Steps p.tables e below (s₁.setTop (mkF m 46 #[.val (.ref r0), .val (.int p1), .val (.int p2), .val (.int (p1 + (1 : Int32))), .val (.int p2)] [(.int (p2.toInt8.toInt32)), (.int p1), (.ref r0)])) _
      refine st52 _ ?_
      show Steps p.tables e below (T52.setTop (mkF m 47 #[.val (.ref r0), .val (.int p1), .val (.int p2), .val (.int (p1 + (1 : Int32))), .val (.int p2)] [])) _
      refine XS.iloadN X52.here hx rfl (hb hby d1_47) rfl ?_
      show Steps p.tables e below (T52.setTop (mkF m 48 #[.val (.ref r0), .val (.int p1), .val (.int p2), .val (.int (p1 + (1 : Int32))), .val (.int p2)] [(.int (p1 + (1 : Int32)))])) _
      exact retI X52 hx Bd.returns (hb hby d1_48) hr
    · show Q1 Z r0 p1 p2 kk vs h0 n0 _ T52.heap _
      rw [e52]
      refine ⟨by rw [f1, if_neg hc9_2], N52, kp54, ?_⟩
      rw [fput, if_neg hc9_2]
      exact f55
theorem d2_0 : decode method_3_code 0 = .ok (.iload_n 1, 1) := by decide +kernel
theorem d2_1 : decode method_3_code 1 = .ok (.iload_n 2, 1) := by decide +kernel
theorem d2_2 : decode method_3_code 2 = .ok (.isub, 1) := by decide +kernel
theorem d2_3 : decode method_3_code 3 = .ok (.istore 6, 2) := by decide +kernel
theorem d2_5 : decode method_3_code 5 = .ok (.iload 6, 2) := by decide +kernel
theorem d2_7 : decode method_3_code 7 = .ok (.ifCond .lt 9, 3) := by decide +kernel
theorem d2_16 : decode method_3_code 16 = .ok (.aload_n 0, 1) := by decide +kernel
theorem d2_17 : decode method_3_code 17 = .ok (.iload_n 1, 1) := by decide +kernel
theorem d2_18 : decode method_3_code 18 = .ok (.baload, 1) := by decide +kernel
theorem d2_19 : decode method_3_code 19 = .ok (.iload 5, 2) := by decide +kernel
theorem d2_21 : decode method_3_code 21 = .ok (.if_icmp .ne 7, 3) := by decide +kernel
theorem d2_24 : decode method_3_code 24 = .ok (.iconst 1, 1) := by decide +kernel
theorem d2_25 : decode method_3_code 25 = .ok (.goto 4, 3) := by decide +kernel
theorem d2_29 : decode method_3_code 29 = .ok (.ireturn, 1) := by decide +kernel
theorem d2_28 : decode method_3_code 28 = .ok (.iconst 0, 1) := by decide +kernel
theorem d2_10 : decode method_3_code 10 = .ok (.iload 6, 2) := by decide +kernel
theorem d2_12 : decode method_3_code 12 = .ok (.iload_n 3, 1) := by decide +kernel
theorem d2_13 : decode method_3_code 13 = .ok (.if_icmp .lt 17, 3) := by decide +kernel
theorem d2_30 : decode method_3_code 30 = .ok (.iload 4, 2) := by decide +kernel
theorem d2_32 : decode method_3_code 32 = .ok (.bipush 7, 2) := by decide +kernel
theorem d2_34 : decode method_3_code 34 = .ok (.iload 6, 2) := by decide +kernel
theorem d2_36 : decode method_3_code 36 = .ok (.imul, 1) := by decide +kernel
theorem d2_37 : decode method_3_code 37 = .ok (.iushr, 1) := by decide +kernel
theorem d2_38 : decode method_3_code 38 = .ok (.bipush 127, 2) := by decide +kernel
theorem d2_40 : decode method_3_code 40 = .ok (.iand, 1) := by decide +kernel
theorem d2_41 : decode method_3_code 41 = .ok (.istore 7, 2) := by decide +kernel
theorem d2_43 : decode method_3_code 43 = .ok (.iload 6, 2) := by decide +kernel
theorem d2_45 : decode method_3_code 45 = .ok (.iload_n 3, 1) := by decide +kernel
theorem d2_46 : decode method_3_code 46 = .ok (.iconst 1, 1) := by decide +kernel
theorem d2_47 : decode method_3_code 47 = .ok (.isub, 1) := by decide +kernel
theorem d2_48 : decode method_3_code 48 = .ok (.if_icmp .ge 12, 3) := by decide +kernel
theorem d2_51 : decode method_3_code 51 = .ok (.iload 7, 2) := by decide +kernel
theorem d2_53 : decode method_3_code 53 = .ok (.sipush 128, 3) := by decide +kernel
theorem d2_56 : decode method_3_code 56 = .ok (.ior, 1) := by decide +kernel
theorem d2_57 : decode method_3_code 57 = .ok (.goto 5, 3) := by decide +kernel
theorem d2_62 : decode method_3_code 62 = .ok (.istore 8, 2) := by decide +kernel
theorem d2_64 : decode method_3_code 64 = .ok (.aload_n 0, 1) := by decide +kernel
theorem d2_65 : decode method_3_code 65 = .ok (.iload_n 1, 1) := by decide +kernel
theorem d2_66 : decode method_3_code 66 = .ok (.baload, 1) := by decide +kernel
theorem d2_67 : decode method_3_code 67 = .ok (.iload 8, 2) := by decide +kernel
theorem d2_69 : decode method_3_code 69 = .ok (.i2b, 1) := by decide +kernel
theorem d2_70 : decode method_3_code 70 = .ok (.if_icmp .ne 7, 3) := by decide +kernel
theorem d2_73 : decode method_3_code 73 = .ok (.iconst 1, 1) := by decide +kernel
theorem d2_74 : decode method_3_code 74 = .ok (.goto 4, 3) := by decide +kernel
theorem d2_78 : decode method_3_code 78 = .ok (.ireturn, 1) := by decide +kernel
theorem d2_77 : decode method_3_code 77 = .ok (.iconst 0, 1) := by decide +kernel
theorem d2_60 : decode method_3_code 60 = .ok (.iload 7, 2) := by decide +kernel
def fok (p1 : Int32) (p2 : Int32) (p3 : Int32) (p4 : Int32) (p5 : Int32) (w : Int32) : Int32 := if (p1 - p2) < (0 : Int32) then (if w = p5 then ((1 : Int32)) else ((0 : Int32))) else (if (p1 - p2) < p3 then (if (p1 - p2) < (p3 - (1 : Int32)) then (if w = (((((p4.toUInt32 >>> (((7 : Int32) * (p1 - p2)) &&& 31).toUInt32).toInt32) &&& (127 : Int32)) ||| (128 : Int32)).toInt8.toInt32) then ((1 : Int32)) else ((0 : Int32))) else (if w = ((((p4.toUInt32 >>> (((7 : Int32) * (p1 - p2)) &&& 31).toUInt32).toInt32) &&& (127 : Int32)).toInt8.toInt32) then ((1 : Int32)) else ((0 : Int32)))) else (if w = p5 then ((1 : Int32)) else ((0 : Int32))))
def Q2 (Z : State) (r0 : Addr) (p1 : Int32) (p2 : Int32) (p3 : Int32) (p4 : Int32) (p5 : Int32) (kk : ClassId) (vs : List Value) (w : Int32) (h0 : Heap) (n0 : Nat) (v : Option Value) (h : Heap) (L : List Loc) : Prop := v = some (.int (fok p1 p2 p3 p4 p5 w)) ∧ Fr n0 L ∧ h = h0
theorem ef_rm2 (m : MethodId) (x0 : Addr) (x1 : Int32) (x2 : Int32) (x3 : Int32) (x4 : Int32) (x5 : Int32) : entryFrame m #[(.ref x0), (.int x1), (.int x2), (.int x3), (.int x4), (.int x5)] 9 = mkF m 0 #[.val (.ref x0), .val (.int x1), .val (.int x2), .val (.int x3), .val (.int x4), .val (.int x5), .unset, .unset, .unset] [] := by first | (simp [entryFrame, mkF, argsToLocals, Value.category]; done) | rfl
theorem pnc_com_example_degree_degree_index_VarintPutPinLaw : plainName "com/example/degree/degree/index/VarintPutPinLaw" = true := by first | (simp [plainName, overriddenIn]; done) | decide +kernel
set_option maxRecDepth 65536 in
set_option maxHeartbeats 40000000 in
theorem rm2 (l : Launch) (Z : State) (a0 : Array Value) (hw : ∀ d ∈ tables_1, d.before a0 Z = true) (ws : List Jvm.Cond) (r0 : Addr) (p1 : Int32) (p2 : Int32) (p3 : Int32) (p4 : Int32) (p5 : Int32) (kk : ClassId) (vs : List Value) (w : Int32) (h0 : Heap) (n0 : Nat) (Z0 : n0 ≤ h0.size) (AV : Arv Z h0 r0 kk .byte (10 : Int32) vs (.int (0 : Int32))) (hi : ¬ p1 < 0 ∧ p1 < (10 : Int32)) (hg : vs.getD p1.toNatClampNeg (.int (0 : Int32)) = .int w) :
    MetFree l (⟨"com/example/degree/degree/index/VarintPutPinLaw", "ok", "([BIIIIB)Z"⟩ : MethodName) (head1 (Jvm.Cond.code (⟨"com/example/degree/degree/index/VarintPutPinLaw", "ok", "([BIIIIB)Z"⟩ : MethodName) method_3_code 9 (some .boolean) :: ws) ({ frames := 0, cells := 0, slots := 0, locals := 0 } : Room)) (fun a U => a = #[(.ref r0), (.int p1), (.int p2), (.int p3), (.int p4), (.int p5)] ∧ Z.Warmed39 U.vm ∧ U.heap = h0) (fun _ _ _ _ _ => True) (fun _ U o U' => ∃ v L, o = .returned v ∧ Q2 Z r0 p1 p2 p3 p4 p5 kk vs w h0 n0 v U'.heap L ∧ FrameEnd U o U' L ({ frames := 0, cells := 0, slots := 0, locals := 0 } : Room).cells ({ frames := 0, cells := 0, slots := 0, locals := 0 } : Room).slots) := by
  refine MetFree.of_bodySF (plainFor_of_name pnc_com_example_degree_degree_index_VarintPutPinLaw) hisR ?_
  intro p e s m args below meth c s₁ Bd hml0 hP hK
  obtain ⟨rfl, hZ, hh⟩ := hP
  have hx := Bd.exec
  have hby := Bd.bytes
  have hml : c.maxLocals = 9 := hml0
  have hown : s.vm.findClass "com/example/degree/degree/index/VarintPutPinLaw" = some m.cls := findClass_of_methodNamed Bd.named
  have hnm := (name_of_methodNamed Bd.named Bd.method).1
  have X0 : Stand p l e ({ frames := 0, cells := 0, slots := 0, locals := 0 } : Room) s m #[(.ref r0), (.int p1), (.int p2), (.int p3), (.int p4), (.int p5)] below meth c s₁ [] 0 0 := Stand.of_body Bd
  have e0 : s₁.heap = h0 := by rw [← hh, Bd.state]; rfl
  have N0 := Fr.nil n0
  have kp0 : Keep h0 h0 [] := Keep.refl _ _
  have G0 : ∀ t, Steps p.tables e below (s₁.setTop (mkF m 0 #[.val (.ref r0), .val (.int p1), .val (.int p2), .val (.int p3), .val (.int p4), .val (.int p5), .unset, .unset, .unset] [])) t → Steps p.tables e below (s₁.setTop (entryFrame m #[(.ref r0), (.int p1), (.int p2), (.int p3), (.int p4), (.int p5)] 9)) t := fun t k => castTop (ef_rm2 m r0 p1 p2 p3 p4 p5) k
  obtain ⟨cl, Ar, qk, Sz, Mz, Hz, Gz⟩ := id AV
  have hin : ¬ (p1 < 0 ∨ cl.slots.size ≤ (p1).toNatClampNeg) := inb_of Sz hi
  have hat : cl.slots[(p1).toNatClampNeg]? = some (.int w) := Hz.at hin hg
  have G1 : ∀ t, Steps p.tables e below (s₁.setTop (mkF m 7 #[.val (.ref r0), .val (.int p1), .val (.int p2), .val (.int p3), .val (.int p4), .val (.int p5), .val (.int (p1 - p2)), .unset, .unset] [(.int (p1 - p2))])) t → Steps p.tables e below (s₁.setTop (entryFrame m #[(.ref r0), (.int p1), (.int p2), (.int p3), (.int p4), (.int p5)] 9)) t := by
    intro t kt
    refine G0 _ ?_
    show Steps p.tables e below (s₁.setTop (mkF m 0 #[.val (.ref r0), .val (.int p1), .val (.int p2), .val (.int p3), .val (.int p4), .val (.int p5), .unset, .unset, .unset] [])) _
    refine XS.iloadN X0.here hx rfl (hb hby d2_0) rfl ?_
    show Steps p.tables e below (s₁.setTop (mkF m 1 #[.val (.ref r0), .val (.int p1), .val (.int p2), .val (.int p3), .val (.int p4), .val (.int p5), .unset, .unset, .unset] [(.int p1)])) _
    refine XS.iloadN X0.here hx rfl (hb hby d2_1) rfl ?_
    show Steps p.tables e below (s₁.setTop (mkF m 2 #[.val (.ref r0), .val (.int p1), .val (.int p2), .val (.int p3), .val (.int p4), .val (.int p5), .unset, .unset, .unset] [(.int p2), (.int p1)])) _
    refine XS.isub X0.here hx rfl (hb hby d2_2) rfl ?_
    show Steps p.tables e below (s₁.setTop (mkF m 3 #[.val (.ref r0), .val (.int p1), .val (.int p2), .val (.int p3), .val (.int p4), .val (.int p5), .unset, .unset, .unset] [(.int (p1 - p2))])) _
    refine XS.istore X0.here hx rfl (hb hby d2_3) rfl (l' := #[.val (.ref r0), .val (.int p1), .val (.int p2), .val (.int p3), .val (.int p4), .val (.int p5), .val (.int (p1 - p2)), .unset, .unset]) rfl ?_
    show Steps p.tables e below (s₁.setTop (mkF m 5 #[.val (.ref r0), .val (.int p1), .val (.int p2), .val (.int p3), .val (.int p4), .val (.int p5), .val (.int (p1 - p2)), .unset, .unset] [])) _
    refine XS.iload X0.here hx rfl (hb hby d2_5) rfl ?_
    exact kt
  by_cases hc7_2 : (p1 - p2) < (0 : Int32)
  · skip
    have G3 : ∀ t, Steps p.tables e below (s₁.setTop (mkF m 21 #[.val (.ref r0), .val (.int p1), .val (.int p2), .val (.int p3), .val (.int p4), .val (.int p5), .val (.int (p1 - p2)), .unset, .unset] [(.int p5), (.int w)])) t → Steps p.tables e below (s₁.setTop (entryFrame m #[(.ref r0), (.int p1), (.int p2), (.int p3), (.int p4), (.int p5)] 9)) t := by
      intro t kt
      refine G1 _ ?_
      show Steps p.tables e below (s₁.setTop (mkF m 7 #[.val (.ref r0), .val (.int p1), .val (.int p2), .val (.int p3), .val (.int p4), .val (.int p5), .val (.int (p1 - p2)), .unset, .unset] [(.int (p1 - p2))])) _
      refine XS.ifYes X0.here hx rfl (pc0 := 7) (pc' := 16) rfl (hb hby d2_7) rfl ((if0 _ _).trans (tlt hc7_2).1) (by decide) (by decide) ?_
      show Steps p.tables e below (s₁.setTop (mkF m 16 #[.val (.ref r0), .val (.int p1), .val (.int p2), .val (.int p3), .val (.int p4), .val (.int p5), .val (.int (p1 - p2)), .unset, .unset] [])) _
      refine XS.aloadN X0.here hx rfl (hb hby d2_16) rfl rfl ?_
      show Steps p.tables e below (s₁.setTop (mkF m 17 #[.val (.ref r0), .val (.int p1), .val (.int p2), .val (.int p3), .val (.int p4), .val (.int p5), .val (.int (p1 - p2)), .unset, .unset] [(.ref r0)])) _
      refine XS.iloadN X0.here hx rfl (hb hby d2_17) rfl ?_
      show Steps p.tables e below (s₁.setTop (mkF m 18 #[.val (.ref r0), .val (.int p1), .val (.int p2), .val (.int p3), .val (.int p4), .val (.int p5), .val (.int (p1 - p2)), .unset, .unset] [(.int p1), (.ref r0)])) _
      refine X0.baloadBytes hx (j := p1) (v := (.int w)) (by rw [e0]; exact Ar.1) (State.isArrayOf_alike hZ.alike Ar.2.1) Ar.2.2 hin hat (g := (mkF m 18 #[.val (.ref r0), .val (.int p1), .val (.int p2), .val (.int p3), .val (.int p4), .val (.int p5), .val (.int (p1 - p2)), .unset, .unset] [(.int p1), (.ref r0)])) rfl rfl (hb hby d2_18) _ ?_
      show Steps p.tables e below (s₁.setTop (mkF m 19 #[.val (.ref r0), .val (.int p1), .val (.int p2), .val (.int p3), .val (.int p4), .val (.int p5), .val (.int (p1 - p2)), .unset, .unset] [(.int w)])) _
      refine XS.iload X0.here hx rfl (hb hby d2_19) rfl ?_
      exact kt
    by_cases hc21_4 : w = p5
    · skip
      obtain ⟨fs, hr, hrun, hended, hW, hsame⟩ := X0.leave (v := some (.int (1 : Int32))) (fun h => by rw [Bd.returns] at h; cases h)
      refine ⟨_, _, G3 _ ?_, hrun, hended, _, _, rfl, ?_, ⟨_, rfl⟩, hW, hsame.mono (by decide) (by decide)⟩
      · skip
        show Steps p.tables e below (s₁.setTop (mkF m 21 #[.val (.ref r0), .val (.int p1), .val (.int p2), .val (.int p3), .val (.int p4), .val (.int p5), .val (.int (p1 - p2)), .unset, .unset] [(.int p5), (.int w)])) _
        refine XS.icmpNo X0.here hx rfl (hb hby d2_21) rfl (teq hc21_4).2 ?_
        show Steps p.tables e below (s₁.setTop (mkF m 24 #[.val (.ref r0), .val (.int p1), .val (.int p2), .val (.int p3), .val (.int p4), .val (.int p5), .val (.int (p1 - p2)), .unset, .unset] [])) _
        refine XS.iconst X0.here hx rfl (hb hby d2_24) ?_
        show Steps p.tables e below (s₁.setTop (mkF m 25 #[.val (.ref r0), .val (.int p1), .val (.int p2), .val (.int p3), .val (.int p4), .val (.int p5), .val (.int (p1 - p2)), .unset, .unset] [(.int (1 : Int32))])) _
        refine XS.goto X0.here hx rfl (pc0 := 25) (pc' := 29) rfl (hb hby d2_25) (by decide) (by decide) ?_
        show Steps p.tables e below (s₁.setTop (mkF m 29 #[.val (.ref r0), .val (.int p1), .val (.int p2), .val (.int p3), .val (.int p4), .val (.int p5), .val (.int (p1 - p2)), .unset, .unset] [(.int (1 : Int32))])) _
        exact retN X0 hx (t := .boolean) Bd.returns (by simp) (hb hby d2_29) hr
      · show Q2 Z r0 p1 p2 p3 p4 p5 kk vs w h0 n0 _ s₁.heap _
        rw [e0]
        exact ⟨by rw [fok, if_pos hc7_2, if_pos hc21_4], N0, rfl⟩
    · skip
      obtain ⟨fs, hr, hrun, hended, hW, hsame⟩ := X0.leave (v := some (.int (0 : Int32))) (fun h => by rw [Bd.returns] at h; cases h)
      refine ⟨_, _, G3 _ ?_, hrun, hended, _, _, rfl, ?_, ⟨_, rfl⟩, hW, hsame.mono (by decide) (by decide)⟩
      · skip
        show Steps p.tables e below (s₁.setTop (mkF m 21 #[.val (.ref r0), .val (.int p1), .val (.int p2), .val (.int p3), .val (.int p4), .val (.int p5), .val (.int (p1 - p2)), .unset, .unset] [(.int p5), (.int w)])) _
        refine XS.icmpYes X0.here hx rfl (pc0 := 21) (pc' := 28) rfl (hb hby d2_21) rfl (feq hc21_4).2 (by decide) (by decide) ?_
        show Steps p.tables e below (s₁.setTop (mkF m 28 #[.val (.ref r0), .val (.int p1), .val (.int p2), .val (.int p3), .val (.int p4), .val (.int p5), .val (.int (p1 - p2)), .unset, .unset] [])) _
        refine XS.iconst X0.here hx rfl (hb hby d2_28) ?_
        show Steps p.tables e below (s₁.setTop (mkF m 29 #[.val (.ref r0), .val (.int p1), .val (.int p2), .val (.int p3), .val (.int p4), .val (.int p5), .val (.int (p1 - p2)), .unset, .unset] [(.int (0 : Int32))])) _
        exact retN X0 hx (t := .boolean) Bd.returns (by simp) (hb hby d2_29) hr
      · show Q2 Z r0 p1 p2 p3 p4 p5 kk vs w h0 n0 _ s₁.heap _
        rw [e0]
        exact ⟨by rw [fok, if_pos hc7_2, if_neg hc21_4], N0, rfl⟩
  · skip
    have G5 : ∀ t, Steps p.tables e below (s₁.setTop (mkF m 13 #[.val (.ref r0), .val (.int p1), .val (.int p2), .val (.int p3), .val (.int p4), .val (.int p5), .val (.int (p1 - p2)), .unset, .unset] [(.int p3), (.int (p1 - p2))])) t → Steps p.tables e below (s₁.setTop (entryFrame m #[(.ref r0), (.int p1), (.int p2), (.int p3), (.int p4), (.int p5)] 9)) t := by
      intro t kt
      refine G1 _ ?_
      show Steps p.tables e below (s₁.setTop (mkF m 7 #[.val (.ref r0), .val (.int p1), .val (.int p2), .val (.int p3), .val (.int p4), .val (.int p5), .val (.int (p1 - p2)), .unset, .unset] [(.int (p1 - p2))])) _
      refine XS.ifNo X0.here hx rfl (hb hby d2_7) rfl ((if0 _ _).trans (flt hc7_2).1) ?_
      show Steps p.tables e below (s₁.setTop (mkF m 10 #[.val (.ref r0), .val (.int p1), .val (.int p2), .val (.int p3), .val (.int p4), .val (.int p5), .val (.int (p1 - p2)), .unset, .unset] [])) _
      refine XS.iload X0.here hx rfl (hb hby d2_10) rfl ?_
      show Steps p.tables e below (s₁.setTop (mkF m 12 #[.val (.ref r0), .val (.int p1), .val (.int p2), .val (.int p3), .val (.int p4), .val (.int p5), .val (.int (p1 - p2)), .unset, .unset] [(.int (p1 - p2))])) _
      refine XS.iloadN X0.here hx rfl (hb hby d2_12) rfl ?_
      exact kt
    by_cases hc13_6 : (p1 - p2) < p3
    · skip
      have G7 : ∀ t, Steps p.tables e below (s₁.setTop (mkF m 48 #[.val (.ref r0), .val (.int p1), .val (.int p2), .val (.int p3), .val (.int p4), .val (.int p5), .val (.int (p1 - p2)), .val (.int (((p4.toUInt32 >>> (((7 : Int32) * (p1 - p2)) &&& 31).toUInt32).toInt32) &&& (127 : Int32))), .unset] [(.int (p3 - (1 : Int32))), (.int (p1 - p2))])) t → Steps p.tables e below (s₁.setTop (entryFrame m #[(.ref r0), (.int p1), (.int p2), (.int p3), (.int p4), (.int p5)] 9)) t := by
        intro t kt
        refine G5 _ ?_
        show Steps p.tables e below (s₁.setTop (mkF m 13 #[.val (.ref r0), .val (.int p1), .val (.int p2), .val (.int p3), .val (.int p4), .val (.int p5), .val (.int (p1 - p2)), .unset, .unset] [(.int p3), (.int (p1 - p2))])) _
        refine XS.icmpYes X0.here hx rfl (pc0 := 13) (pc' := 30) rfl (hb hby d2_13) rfl (tlt hc13_6).1 (by decide) (by decide) ?_
        show Steps p.tables e below (s₁.setTop (mkF m 30 #[.val (.ref r0), .val (.int p1), .val (.int p2), .val (.int p3), .val (.int p4), .val (.int p5), .val (.int (p1 - p2)), .unset, .unset] [])) _
        refine XS.iload X0.here hx rfl (hb hby d2_30) rfl ?_
        show Steps p.tables e below (s₁.setTop (mkF m 32 #[.val (.ref r0), .val (.int p1), .val (.int p2), .val (.int p3), .val (.int p4), .val (.int p5), .val (.int (p1 - p2)), .unset, .unset] [(.int p4)])) _
        refine XS.bipush X0.here hx rfl (hb hby d2_32) ?_
        show Steps p.tables e below (s₁.setTop (mkF m 34 #[.val (.ref r0), .val (.int p1), .val (.int p2), .val (.int p3), .val (.int p4), .val (.int p5), .val (.int (p1 - p2)), .unset, .unset] [(.int (7 : Int32)), (.int p4)])) _
        refine XS.iload X0.here hx rfl (hb hby d2_34) rfl ?_
        show Steps p.tables e below (s₁.setTop (mkF m 36 #[.val (.ref r0), .val (.int p1), .val (.int p2), .val (.int p3), .val (.int p4), .val (.int p5), .val (.int (p1 - p2)), .unset, .unset] [(.int (p1 - p2)), (.int (7 : Int32)), (.int p4)])) _
        refine XS.imul X0.here hx rfl (hb hby d2_36) rfl ?_
        show Steps p.tables e below (s₁.setTop (mkF m 37 #[.val (.ref r0), .val (.int p1), .val (.int p2), .val (.int p3), .val (.int p4), .val (.int p5), .val (.int (p1 - p2)), .unset, .unset] [(.int ((7 : Int32) * (p1 - p2))), (.int p4)])) _
        refine XS.iushr X0.here hx rfl (hb hby d2_37) rfl ?_
        show Steps p.tables e below (s₁.setTop (mkF m 38 #[.val (.ref r0), .val (.int p1), .val (.int p2), .val (.int p3), .val (.int p4), .val (.int p5), .val (.int (p1 - p2)), .unset, .unset] [(.int ((p4.toUInt32 >>> (((7 : Int32) * (p1 - p2)) &&& 31).toUInt32).toInt32))])) _
        refine XS.bipush X0.here hx rfl (hb hby d2_38) ?_
        show Steps p.tables e below (s₁.setTop (mkF m 40 #[.val (.ref r0), .val (.int p1), .val (.int p2), .val (.int p3), .val (.int p4), .val (.int p5), .val (.int (p1 - p2)), .unset, .unset] [(.int (127 : Int32)), (.int ((p4.toUInt32 >>> (((7 : Int32) * (p1 - p2)) &&& 31).toUInt32).toInt32))])) _
        refine XS.iand X0.here hx rfl (hb hby d2_40) rfl ?_
        show Steps p.tables e below (s₁.setTop (mkF m 41 #[.val (.ref r0), .val (.int p1), .val (.int p2), .val (.int p3), .val (.int p4), .val (.int p5), .val (.int (p1 - p2)), .unset, .unset] [(.int (((p4.toUInt32 >>> (((7 : Int32) * (p1 - p2)) &&& 31).toUInt32).toInt32) &&& (127 : Int32)))])) _
        refine XS.istore X0.here hx rfl (hb hby d2_41) rfl (l' := #[.val (.ref r0), .val (.int p1), .val (.int p2), .val (.int p3), .val (.int p4), .val (.int p5), .val (.int (p1 - p2)), .val (.int (((p4.toUInt32 >>> (((7 : Int32) * (p1 - p2)) &&& 31).toUInt32).toInt32) &&& (127 : Int32))), .unset]) rfl ?_
        show Steps p.tables e below (s₁.setTop (mkF m 43 #[.val (.ref r0), .val (.int p1), .val (.int p2), .val (.int p3), .val (.int p4), .val (.int p5), .val (.int (p1 - p2)), .val (.int (((p4.toUInt32 >>> (((7 : Int32) * (p1 - p2)) &&& 31).toUInt32).toInt32) &&& (127 : Int32))), .unset] [])) _
        refine XS.iload X0.here hx rfl (hb hby d2_43) rfl ?_
        show Steps p.tables e below (s₁.setTop (mkF m 45 #[.val (.ref r0), .val (.int p1), .val (.int p2), .val (.int p3), .val (.int p4), .val (.int p5), .val (.int (p1 - p2)), .val (.int (((p4.toUInt32 >>> (((7 : Int32) * (p1 - p2)) &&& 31).toUInt32).toInt32) &&& (127 : Int32))), .unset] [(.int (p1 - p2))])) _
        refine XS.iloadN X0.here hx rfl (hb hby d2_45) rfl ?_
        show Steps p.tables e below (s₁.setTop (mkF m 46 #[.val (.ref r0), .val (.int p1), .val (.int p2), .val (.int p3), .val (.int p4), .val (.int p5), .val (.int (p1 - p2)), .val (.int (((p4.toUInt32 >>> (((7 : Int32) * (p1 - p2)) &&& 31).toUInt32).toInt32) &&& (127 : Int32))), .unset] [(.int p3), (.int (p1 - p2))])) _
        refine XS.iconst X0.here hx rfl (hb hby d2_46) ?_
        show Steps p.tables e below (s₁.setTop (mkF m 47 #[.val (.ref r0), .val (.int p1), .val (.int p2), .val (.int p3), .val (.int p4), .val (.int p5), .val (.int (p1 - p2)), .val (.int (((p4.toUInt32 >>> (((7 : Int32) * (p1 - p2)) &&& 31).toUInt32).toInt32) &&& (127 : Int32))), .unset] [(.int (1 : Int32)), (.int p3), (.int (p1 - p2))])) _
        refine XS.isub X0.here hx rfl (hb hby d2_47) rfl ?_
        exact kt
      by_cases hc48_8 : (p1 - p2) < (p3 - (1 : Int32))
      · skip
        have G9 : ∀ t, Steps p.tables e below (s₁.setTop (mkF m 70 #[.val (.ref r0), .val (.int p1), .val (.int p2), .val (.int p3), .val (.int p4), .val (.int p5), .val (.int (p1 - p2)), .val (.int (((p4.toUInt32 >>> (((7 : Int32) * (p1 - p2)) &&& 31).toUInt32).toInt32) &&& (127 : Int32))), .val (.int ((((p4.toUInt32 >>> (((7 : Int32) * (p1 - p2)) &&& 31).toUInt32).toInt32) &&& (127 : Int32)) ||| (128 : Int32)))] [(.int (((((p4.toUInt32 >>> (((7 : Int32) * (p1 - p2)) &&& 31).toUInt32).toInt32) &&& (127 : Int32)) ||| (128 : Int32)).toInt8.toInt32)), (.int w)])) t → Steps p.tables e below (s₁.setTop (entryFrame m #[(.ref r0), (.int p1), (.int p2), (.int p3), (.int p4), (.int p5)] 9)) t := by
          intro t kt
          refine G7 _ ?_
          show Steps p.tables e below (s₁.setTop (mkF m 48 #[.val (.ref r0), .val (.int p1), .val (.int p2), .val (.int p3), .val (.int p4), .val (.int p5), .val (.int (p1 - p2)), .val (.int (((p4.toUInt32 >>> (((7 : Int32) * (p1 - p2)) &&& 31).toUInt32).toInt32) &&& (127 : Int32))), .unset] [(.int (p3 - (1 : Int32))), (.int (p1 - p2))])) _
          refine XS.icmpNo X0.here hx rfl (hb hby d2_48) rfl (tlt hc48_8).2.1 ?_
          show Steps p.tables e below (s₁.setTop (mkF m 51 #[.val (.ref r0), .val (.int p1), .val (.int p2), .val (.int p3), .val (.int p4), .val (.int p5), .val (.int (p1 - p2)), .val (.int (((p4.toUInt32 >>> (((7 : Int32) * (p1 - p2)) &&& 31).toUInt32).toInt32) &&& (127 : Int32))), .unset] [])) _
          refine XS.iload X0.here hx rfl (hb hby d2_51) rfl ?_
          show Steps p.tables e below (s₁.setTop (mkF m 53 #[.val (.ref r0), .val (.int p1), .val (.int p2), .val (.int p3), .val (.int p4), .val (.int p5), .val (.int (p1 - p2)), .val (.int (((p4.toUInt32 >>> (((7 : Int32) * (p1 - p2)) &&& 31).toUInt32).toInt32) &&& (127 : Int32))), .unset] [(.int (((p4.toUInt32 >>> (((7 : Int32) * (p1 - p2)) &&& 31).toUInt32).toInt32) &&& (127 : Int32)))])) _
          refine XS.sipush X0.here hx rfl (hb hby d2_53) ?_
          show Steps p.tables e below (s₁.setTop (mkF m 56 #[.val (.ref r0), .val (.int p1), .val (.int p2), .val (.int p3), .val (.int p4), .val (.int p5), .val (.int (p1 - p2)), .val (.int (((p4.toUInt32 >>> (((7 : Int32) * (p1 - p2)) &&& 31).toUInt32).toInt32) &&& (127 : Int32))), .unset] [(.int (128 : Int32)), (.int (((p4.toUInt32 >>> (((7 : Int32) * (p1 - p2)) &&& 31).toUInt32).toInt32) &&& (127 : Int32)))])) _
          refine XS.ior X0.here hx rfl (hb hby d2_56) rfl ?_
          show Steps p.tables e below (s₁.setTop (mkF m 57 #[.val (.ref r0), .val (.int p1), .val (.int p2), .val (.int p3), .val (.int p4), .val (.int p5), .val (.int (p1 - p2)), .val (.int (((p4.toUInt32 >>> (((7 : Int32) * (p1 - p2)) &&& 31).toUInt32).toInt32) &&& (127 : Int32))), .unset] [(.int ((((p4.toUInt32 >>> (((7 : Int32) * (p1 - p2)) &&& 31).toUInt32).toInt32) &&& (127 : Int32)) ||| (128 : Int32)))])) _
          refine XS.goto X0.here hx rfl (pc0 := 57) (pc' := 62) rfl (hb hby d2_57) (by decide) (by decide) ?_
          show Steps p.tables e below (s₁.setTop (mkF m 62 #[.val (.ref r0), .val (.int p1), .val (.int p2), .val (.int p3), .val (.int p4), .val (.int p5), .val (.int (p1 - p2)), .val (.int (((p4.toUInt32 >>> (((7 : Int32) * (p1 - p2)) &&& 31).toUInt32).toInt32) &&& (127 : Int32))), .unset] [(.int ((((p4.toUInt32 >>> (((7 : Int32) * (p1 - p2)) &&& 31).toUInt32).toInt32) &&& (127 : Int32)) ||| (128 : Int32)))])) _
          refine XS.istore X0.here hx rfl (hb hby d2_62) rfl (l' := #[.val (.ref r0), .val (.int p1), .val (.int p2), .val (.int p3), .val (.int p4), .val (.int p5), .val (.int (p1 - p2)), .val (.int (((p4.toUInt32 >>> (((7 : Int32) * (p1 - p2)) &&& 31).toUInt32).toInt32) &&& (127 : Int32))), .val (.int ((((p4.toUInt32 >>> (((7 : Int32) * (p1 - p2)) &&& 31).toUInt32).toInt32) &&& (127 : Int32)) ||| (128 : Int32)))]) rfl ?_
          show Steps p.tables e below (s₁.setTop (mkF m 64 #[.val (.ref r0), .val (.int p1), .val (.int p2), .val (.int p3), .val (.int p4), .val (.int p5), .val (.int (p1 - p2)), .val (.int (((p4.toUInt32 >>> (((7 : Int32) * (p1 - p2)) &&& 31).toUInt32).toInt32) &&& (127 : Int32))), .val (.int ((((p4.toUInt32 >>> (((7 : Int32) * (p1 - p2)) &&& 31).toUInt32).toInt32) &&& (127 : Int32)) ||| (128 : Int32)))] [])) _
          refine XS.aloadN X0.here hx rfl (hb hby d2_64) rfl rfl ?_
          show Steps p.tables e below (s₁.setTop (mkF m 65 #[.val (.ref r0), .val (.int p1), .val (.int p2), .val (.int p3), .val (.int p4), .val (.int p5), .val (.int (p1 - p2)), .val (.int (((p4.toUInt32 >>> (((7 : Int32) * (p1 - p2)) &&& 31).toUInt32).toInt32) &&& (127 : Int32))), .val (.int ((((p4.toUInt32 >>> (((7 : Int32) * (p1 - p2)) &&& 31).toUInt32).toInt32) &&& (127 : Int32)) ||| (128 : Int32)))] [(.ref r0)])) _
          refine XS.iloadN X0.here hx rfl (hb hby d2_65) rfl ?_
          show Steps p.tables e below (s₁.setTop (mkF m 66 #[.val (.ref r0), .val (.int p1), .val (.int p2), .val (.int p3), .val (.int p4), .val (.int p5), .val (.int (p1 - p2)), .val (.int (((p4.toUInt32 >>> (((7 : Int32) * (p1 - p2)) &&& 31).toUInt32).toInt32) &&& (127 : Int32))), .val (.int ((((p4.toUInt32 >>> (((7 : Int32) * (p1 - p2)) &&& 31).toUInt32).toInt32) &&& (127 : Int32)) ||| (128 : Int32)))] [(.int p1), (.ref r0)])) _
          refine X0.baloadBytes hx (j := p1) (v := (.int w)) (by rw [e0]; exact Ar.1) (State.isArrayOf_alike hZ.alike Ar.2.1) Ar.2.2 hin hat (g := (mkF m 66 #[.val (.ref r0), .val (.int p1), .val (.int p2), .val (.int p3), .val (.int p4), .val (.int p5), .val (.int (p1 - p2)), .val (.int (((p4.toUInt32 >>> (((7 : Int32) * (p1 - p2)) &&& 31).toUInt32).toInt32) &&& (127 : Int32))), .val (.int ((((p4.toUInt32 >>> (((7 : Int32) * (p1 - p2)) &&& 31).toUInt32).toInt32) &&& (127 : Int32)) ||| (128 : Int32)))] [(.int p1), (.ref r0)])) rfl rfl (hb hby d2_66) _ ?_
          show Steps p.tables e below (s₁.setTop (mkF m 67 #[.val (.ref r0), .val (.int p1), .val (.int p2), .val (.int p3), .val (.int p4), .val (.int p5), .val (.int (p1 - p2)), .val (.int (((p4.toUInt32 >>> (((7 : Int32) * (p1 - p2)) &&& 31).toUInt32).toInt32) &&& (127 : Int32))), .val (.int ((((p4.toUInt32 >>> (((7 : Int32) * (p1 - p2)) &&& 31).toUInt32).toInt32) &&& (127 : Int32)) ||| (128 : Int32)))] [(.int w)])) _
          refine XS.iload X0.here hx rfl (hb hby d2_67) rfl ?_
          show Steps p.tables e below (s₁.setTop (mkF m 69 #[.val (.ref r0), .val (.int p1), .val (.int p2), .val (.int p3), .val (.int p4), .val (.int p5), .val (.int (p1 - p2)), .val (.int (((p4.toUInt32 >>> (((7 : Int32) * (p1 - p2)) &&& 31).toUInt32).toInt32) &&& (127 : Int32))), .val (.int ((((p4.toUInt32 >>> (((7 : Int32) * (p1 - p2)) &&& 31).toUInt32).toInt32) &&& (127 : Int32)) ||| (128 : Int32)))] [(.int ((((p4.toUInt32 >>> (((7 : Int32) * (p1 - p2)) &&& 31).toUInt32).toInt32) &&& (127 : Int32)) ||| (128 : Int32))), (.int w)])) _
          refine XS.i2b X0.here hx rfl (hb hby d2_69) rfl ?_
          exact kt
        by_cases hc70_10 : w = (((((p4.toUInt32 >>> (((7 : Int32) * (p1 - p2)) &&& 31).toUInt32).toInt32) &&& (127 : Int32)) ||| (128 : Int32)).toInt8.toInt32)
        · skip
          obtain ⟨fs, hr, hrun, hended, hW, hsame⟩ := X0.leave (v := some (.int (1 : Int32))) (fun h => by rw [Bd.returns] at h; cases h)
          refine ⟨_, _, G9 _ ?_, hrun, hended, _, _, rfl, ?_, ⟨_, rfl⟩, hW, hsame.mono (by decide) (by decide)⟩
          · skip
            show Steps p.tables e below (s₁.setTop (mkF m 70 #[.val (.ref r0), .val (.int p1), .val (.int p2), .val (.int p3), .val (.int p4), .val (.int p5), .val (.int (p1 - p2)), .val (.int (((p4.toUInt32 >>> (((7 : Int32) * (p1 - p2)) &&& 31).toUInt32).toInt32) &&& (127 : Int32))), .val (.int ((((p4.toUInt32 >>> (((7 : Int32) * (p1 - p2)) &&& 31).toUInt32).toInt32) &&& (127 : Int32)) ||| (128 : Int32)))] [(.int (((((p4.toUInt32 >>> (((7 : Int32) * (p1 - p2)) &&& 31).toUInt32).toInt32) &&& (127 : Int32)) ||| (128 : Int32)).toInt8.toInt32)), (.int w)])) _
            refine XS.icmpNo X0.here hx rfl (hb hby d2_70) rfl (teq hc70_10).2 ?_
            show Steps p.tables e below (s₁.setTop (mkF m 73 #[.val (.ref r0), .val (.int p1), .val (.int p2), .val (.int p3), .val (.int p4), .val (.int p5), .val (.int (p1 - p2)), .val (.int (((p4.toUInt32 >>> (((7 : Int32) * (p1 - p2)) &&& 31).toUInt32).toInt32) &&& (127 : Int32))), .val (.int ((((p4.toUInt32 >>> (((7 : Int32) * (p1 - p2)) &&& 31).toUInt32).toInt32) &&& (127 : Int32)) ||| (128 : Int32)))] [])) _
            refine XS.iconst X0.here hx rfl (hb hby d2_73) ?_
            show Steps p.tables e below (s₁.setTop (mkF m 74 #[.val (.ref r0), .val (.int p1), .val (.int p2), .val (.int p3), .val (.int p4), .val (.int p5), .val (.int (p1 - p2)), .val (.int (((p4.toUInt32 >>> (((7 : Int32) * (p1 - p2)) &&& 31).toUInt32).toInt32) &&& (127 : Int32))), .val (.int ((((p4.toUInt32 >>> (((7 : Int32) * (p1 - p2)) &&& 31).toUInt32).toInt32) &&& (127 : Int32)) ||| (128 : Int32)))] [(.int (1 : Int32))])) _
            refine XS.goto X0.here hx rfl (pc0 := 74) (pc' := 78) rfl (hb hby d2_74) (by decide) (by decide) ?_
            show Steps p.tables e below (s₁.setTop (mkF m 78 #[.val (.ref r0), .val (.int p1), .val (.int p2), .val (.int p3), .val (.int p4), .val (.int p5), .val (.int (p1 - p2)), .val (.int (((p4.toUInt32 >>> (((7 : Int32) * (p1 - p2)) &&& 31).toUInt32).toInt32) &&& (127 : Int32))), .val (.int ((((p4.toUInt32 >>> (((7 : Int32) * (p1 - p2)) &&& 31).toUInt32).toInt32) &&& (127 : Int32)) ||| (128 : Int32)))] [(.int (1 : Int32))])) _
            exact retN X0 hx (t := .boolean) Bd.returns (by simp) (hb hby d2_78) hr
          · show Q2 Z r0 p1 p2 p3 p4 p5 kk vs w h0 n0 _ s₁.heap _
            rw [e0]
            exact ⟨by rw [fok, if_neg hc7_2, if_pos hc13_6, if_pos hc48_8, if_pos hc70_10], N0, rfl⟩
        · skip
          obtain ⟨fs, hr, hrun, hended, hW, hsame⟩ := X0.leave (v := some (.int (0 : Int32))) (fun h => by rw [Bd.returns] at h; cases h)
          refine ⟨_, _, G9 _ ?_, hrun, hended, _, _, rfl, ?_, ⟨_, rfl⟩, hW, hsame.mono (by decide) (by decide)⟩
          · skip
            show Steps p.tables e below (s₁.setTop (mkF m 70 #[.val (.ref r0), .val (.int p1), .val (.int p2), .val (.int p3), .val (.int p4), .val (.int p5), .val (.int (p1 - p2)), .val (.int (((p4.toUInt32 >>> (((7 : Int32) * (p1 - p2)) &&& 31).toUInt32).toInt32) &&& (127 : Int32))), .val (.int ((((p4.toUInt32 >>> (((7 : Int32) * (p1 - p2)) &&& 31).toUInt32).toInt32) &&& (127 : Int32)) ||| (128 : Int32)))] [(.int (((((p4.toUInt32 >>> (((7 : Int32) * (p1 - p2)) &&& 31).toUInt32).toInt32) &&& (127 : Int32)) ||| (128 : Int32)).toInt8.toInt32)), (.int w)])) _
            refine XS.icmpYes X0.here hx rfl (pc0 := 70) (pc' := 77) rfl (hb hby d2_70) rfl (feq hc70_10).2 (by decide) (by decide) ?_
            show Steps p.tables e below (s₁.setTop (mkF m 77 #[.val (.ref r0), .val (.int p1), .val (.int p2), .val (.int p3), .val (.int p4), .val (.int p5), .val (.int (p1 - p2)), .val (.int (((p4.toUInt32 >>> (((7 : Int32) * (p1 - p2)) &&& 31).toUInt32).toInt32) &&& (127 : Int32))), .val (.int ((((p4.toUInt32 >>> (((7 : Int32) * (p1 - p2)) &&& 31).toUInt32).toInt32) &&& (127 : Int32)) ||| (128 : Int32)))] [])) _
            refine XS.iconst X0.here hx rfl (hb hby d2_77) ?_
            show Steps p.tables e below (s₁.setTop (mkF m 78 #[.val (.ref r0), .val (.int p1), .val (.int p2), .val (.int p3), .val (.int p4), .val (.int p5), .val (.int (p1 - p2)), .val (.int (((p4.toUInt32 >>> (((7 : Int32) * (p1 - p2)) &&& 31).toUInt32).toInt32) &&& (127 : Int32))), .val (.int ((((p4.toUInt32 >>> (((7 : Int32) * (p1 - p2)) &&& 31).toUInt32).toInt32) &&& (127 : Int32)) ||| (128 : Int32)))] [(.int (0 : Int32))])) _
            exact retN X0 hx (t := .boolean) Bd.returns (by simp) (hb hby d2_78) hr
          · show Q2 Z r0 p1 p2 p3 p4 p5 kk vs w h0 n0 _ s₁.heap _
            rw [e0]
            exact ⟨by rw [fok, if_neg hc7_2, if_pos hc13_6, if_pos hc48_8, if_neg hc70_10], N0, rfl⟩
      · skip
        have G11 : ∀ t, Steps p.tables e below (s₁.setTop (mkF m 70 #[.val (.ref r0), .val (.int p1), .val (.int p2), .val (.int p3), .val (.int p4), .val (.int p5), .val (.int (p1 - p2)), .val (.int (((p4.toUInt32 >>> (((7 : Int32) * (p1 - p2)) &&& 31).toUInt32).toInt32) &&& (127 : Int32))), .val (.int (((p4.toUInt32 >>> (((7 : Int32) * (p1 - p2)) &&& 31).toUInt32).toInt32) &&& (127 : Int32)))] [(.int ((((p4.toUInt32 >>> (((7 : Int32) * (p1 - p2)) &&& 31).toUInt32).toInt32) &&& (127 : Int32)).toInt8.toInt32)), (.int w)])) t → Steps p.tables e below (s₁.setTop (entryFrame m #[(.ref r0), (.int p1), (.int p2), (.int p3), (.int p4), (.int p5)] 9)) t := by
          intro t kt
          refine G7 _ ?_
          show Steps p.tables e below (s₁.setTop (mkF m 48 #[.val (.ref r0), .val (.int p1), .val (.int p2), .val (.int p3), .val (.int p4), .val (.int p5), .val (.int (p1 - p2)), .val (.int (((p4.toUInt32 >>> (((7 : Int32) * (p1 - p2)) &&& 31).toUInt32).toInt32) &&& (127 : Int32))), .unset] [(.int (p3 - (1 : Int32))), (.int (p1 - p2))])) _
          refine XS.icmpYes X0.here hx rfl (pc0 := 48) (pc' := 60) rfl (hb hby d2_48) rfl (flt hc48_8).2.1 (by decide) (by decide) ?_
          show Steps p.tables e below (s₁.setTop (mkF m 60 #[.val (.ref r0), .val (.int p1), .val (.int p2), .val (.int p3), .val (.int p4), .val (.int p5), .val (.int (p1 - p2)), .val (.int (((p4.toUInt32 >>> (((7 : Int32) * (p1 - p2)) &&& 31).toUInt32).toInt32) &&& (127 : Int32))), .unset] [])) _
          refine XS.iload X0.here hx rfl (hb hby d2_60) rfl ?_
          show Steps p.tables e below (s₁.setTop (mkF m 62 #[.val (.ref r0), .val (.int p1), .val (.int p2), .val (.int p3), .val (.int p4), .val (.int p5), .val (.int (p1 - p2)), .val (.int (((p4.toUInt32 >>> (((7 : Int32) * (p1 - p2)) &&& 31).toUInt32).toInt32) &&& (127 : Int32))), .unset] [(.int (((p4.toUInt32 >>> (((7 : Int32) * (p1 - p2)) &&& 31).toUInt32).toInt32) &&& (127 : Int32)))])) _
          refine XS.istore X0.here hx rfl (hb hby d2_62) rfl (l' := #[.val (.ref r0), .val (.int p1), .val (.int p2), .val (.int p3), .val (.int p4), .val (.int p5), .val (.int (p1 - p2)), .val (.int (((p4.toUInt32 >>> (((7 : Int32) * (p1 - p2)) &&& 31).toUInt32).toInt32) &&& (127 : Int32))), .val (.int (((p4.toUInt32 >>> (((7 : Int32) * (p1 - p2)) &&& 31).toUInt32).toInt32) &&& (127 : Int32)))]) rfl ?_
          show Steps p.tables e below (s₁.setTop (mkF m 64 #[.val (.ref r0), .val (.int p1), .val (.int p2), .val (.int p3), .val (.int p4), .val (.int p5), .val (.int (p1 - p2)), .val (.int (((p4.toUInt32 >>> (((7 : Int32) * (p1 - p2)) &&& 31).toUInt32).toInt32) &&& (127 : Int32))), .val (.int (((p4.toUInt32 >>> (((7 : Int32) * (p1 - p2)) &&& 31).toUInt32).toInt32) &&& (127 : Int32)))] [])) _
          refine XS.aloadN X0.here hx rfl (hb hby d2_64) rfl rfl ?_
          show Steps p.tables e below (s₁.setTop (mkF m 65 #[.val (.ref r0), .val (.int p1), .val (.int p2), .val (.int p3), .val (.int p4), .val (.int p5), .val (.int (p1 - p2)), .val (.int (((p4.toUInt32 >>> (((7 : Int32) * (p1 - p2)) &&& 31).toUInt32).toInt32) &&& (127 : Int32))), .val (.int (((p4.toUInt32 >>> (((7 : Int32) * (p1 - p2)) &&& 31).toUInt32).toInt32) &&& (127 : Int32)))] [(.ref r0)])) _
          refine XS.iloadN X0.here hx rfl (hb hby d2_65) rfl ?_
          show Steps p.tables e below (s₁.setTop (mkF m 66 #[.val (.ref r0), .val (.int p1), .val (.int p2), .val (.int p3), .val (.int p4), .val (.int p5), .val (.int (p1 - p2)), .val (.int (((p4.toUInt32 >>> (((7 : Int32) * (p1 - p2)) &&& 31).toUInt32).toInt32) &&& (127 : Int32))), .val (.int (((p4.toUInt32 >>> (((7 : Int32) * (p1 - p2)) &&& 31).toUInt32).toInt32) &&& (127 : Int32)))] [(.int p1), (.ref r0)])) _
          refine X0.baloadBytes hx (j := p1) (v := (.int w)) (by rw [e0]; exact Ar.1) (State.isArrayOf_alike hZ.alike Ar.2.1) Ar.2.2 hin hat (g := (mkF m 66 #[.val (.ref r0), .val (.int p1), .val (.int p2), .val (.int p3), .val (.int p4), .val (.int p5), .val (.int (p1 - p2)), .val (.int (((p4.toUInt32 >>> (((7 : Int32) * (p1 - p2)) &&& 31).toUInt32).toInt32) &&& (127 : Int32))), .val (.int (((p4.toUInt32 >>> (((7 : Int32) * (p1 - p2)) &&& 31).toUInt32).toInt32) &&& (127 : Int32)))] [(.int p1), (.ref r0)])) rfl rfl (hb hby d2_66) _ ?_
          show Steps p.tables e below (s₁.setTop (mkF m 67 #[.val (.ref r0), .val (.int p1), .val (.int p2), .val (.int p3), .val (.int p4), .val (.int p5), .val (.int (p1 - p2)), .val (.int (((p4.toUInt32 >>> (((7 : Int32) * (p1 - p2)) &&& 31).toUInt32).toInt32) &&& (127 : Int32))), .val (.int (((p4.toUInt32 >>> (((7 : Int32) * (p1 - p2)) &&& 31).toUInt32).toInt32) &&& (127 : Int32)))] [(.int w)])) _
          refine XS.iload X0.here hx rfl (hb hby d2_67) rfl ?_
          show Steps p.tables e below (s₁.setTop (mkF m 69 #[.val (.ref r0), .val (.int p1), .val (.int p2), .val (.int p3), .val (.int p4), .val (.int p5), .val (.int (p1 - p2)), .val (.int (((p4.toUInt32 >>> (((7 : Int32) * (p1 - p2)) &&& 31).toUInt32).toInt32) &&& (127 : Int32))), .val (.int (((p4.toUInt32 >>> (((7 : Int32) * (p1 - p2)) &&& 31).toUInt32).toInt32) &&& (127 : Int32)))] [(.int (((p4.toUInt32 >>> (((7 : Int32) * (p1 - p2)) &&& 31).toUInt32).toInt32) &&& (127 : Int32))), (.int w)])) _
          refine XS.i2b X0.here hx rfl (hb hby d2_69) rfl ?_
          exact kt
        by_cases hc70_12 : w = ((((p4.toUInt32 >>> (((7 : Int32) * (p1 - p2)) &&& 31).toUInt32).toInt32) &&& (127 : Int32)).toInt8.toInt32)
        · skip
          obtain ⟨fs, hr, hrun, hended, hW, hsame⟩ := X0.leave (v := some (.int (1 : Int32))) (fun h => by rw [Bd.returns] at h; cases h)
          refine ⟨_, _, G11 _ ?_, hrun, hended, _, _, rfl, ?_, ⟨_, rfl⟩, hW, hsame.mono (by decide) (by decide)⟩
          · skip
            show Steps p.tables e below (s₁.setTop (mkF m 70 #[.val (.ref r0), .val (.int p1), .val (.int p2), .val (.int p3), .val (.int p4), .val (.int p5), .val (.int (p1 - p2)), .val (.int (((p4.toUInt32 >>> (((7 : Int32) * (p1 - p2)) &&& 31).toUInt32).toInt32) &&& (127 : Int32))), .val (.int (((p4.toUInt32 >>> (((7 : Int32) * (p1 - p2)) &&& 31).toUInt32).toInt32) &&& (127 : Int32)))] [(.int ((((p4.toUInt32 >>> (((7 : Int32) * (p1 - p2)) &&& 31).toUInt32).toInt32) &&& (127 : Int32)).toInt8.toInt32)), (.int w)])) _
            refine XS.icmpNo X0.here hx rfl (hb hby d2_70) rfl (teq hc70_12).2 ?_
            show Steps p.tables e below (s₁.setTop (mkF m 73 #[.val (.ref r0), .val (.int p1), .val (.int p2), .val (.int p3), .val (.int p4), .val (.int p5), .val (.int (p1 - p2)), .val (.int (((p4.toUInt32 >>> (((7 : Int32) * (p1 - p2)) &&& 31).toUInt32).toInt32) &&& (127 : Int32))), .val (.int (((p4.toUInt32 >>> (((7 : Int32) * (p1 - p2)) &&& 31).toUInt32).toInt32) &&& (127 : Int32)))] [])) _
            refine XS.iconst X0.here hx rfl (hb hby d2_73) ?_
            show Steps p.tables e below (s₁.setTop (mkF m 74 #[.val (.ref r0), .val (.int p1), .val (.int p2), .val (.int p3), .val (.int p4), .val (.int p5), .val (.int (p1 - p2)), .val (.int (((p4.toUInt32 >>> (((7 : Int32) * (p1 - p2)) &&& 31).toUInt32).toInt32) &&& (127 : Int32))), .val (.int (((p4.toUInt32 >>> (((7 : Int32) * (p1 - p2)) &&& 31).toUInt32).toInt32) &&& (127 : Int32)))] [(.int (1 : Int32))])) _
            refine XS.goto X0.here hx rfl (pc0 := 74) (pc' := 78) rfl (hb hby d2_74) (by decide) (by decide) ?_
            show Steps p.tables e below (s₁.setTop (mkF m 78 #[.val (.ref r0), .val (.int p1), .val (.int p2), .val (.int p3), .val (.int p4), .val (.int p5), .val (.int (p1 - p2)), .val (.int (((p4.toUInt32 >>> (((7 : Int32) * (p1 - p2)) &&& 31).toUInt32).toInt32) &&& (127 : Int32))), .val (.int (((p4.toUInt32 >>> (((7 : Int32) * (p1 - p2)) &&& 31).toUInt32).toInt32) &&& (127 : Int32)))] [(.int (1 : Int32))])) _
            exact retN X0 hx (t := .boolean) Bd.returns (by simp) (hb hby d2_78) hr
          · show Q2 Z r0 p1 p2 p3 p4 p5 kk vs w h0 n0 _ s₁.heap _
            rw [e0]
            exact ⟨by rw [fok, if_neg hc7_2, if_pos hc13_6, if_neg hc48_8, if_pos hc70_12], N0, rfl⟩
        · skip
          obtain ⟨fs, hr, hrun, hended, hW, hsame⟩ := X0.leave (v := some (.int (0 : Int32))) (fun h => by rw [Bd.returns] at h; cases h)
          refine ⟨_, _, G11 _ ?_, hrun, hended, _, _, rfl, ?_, ⟨_, rfl⟩, hW, hsame.mono (by decide) (by decide)⟩
          · skip
            show Steps p.tables e below (s₁.setTop (mkF m 70 #[.val (.ref r0), .val (.int p1), .val (.int p2), .val (.int p3), .val (.int p4), .val (.int p5), .val (.int (p1 - p2)), .val (.int (((p4.toUInt32 >>> (((7 : Int32) * (p1 - p2)) &&& 31).toUInt32).toInt32) &&& (127 : Int32))), .val (.int (((p4.toUInt32 >>> (((7 : Int32) * (p1 - p2)) &&& 31).toUInt32).toInt32) &&& (127 : Int32)))] [(.int ((((p4.toUInt32 >>> (((7 : Int32) * (p1 - p2)) &&& 31).toUInt32).toInt32) &&& (127 : Int32)).toInt8.toInt32)), (.int w)])) _
            refine XS.icmpYes X0.here hx rfl (pc0 := 70) (pc' := 77) rfl (hb hby d2_70) rfl (feq hc70_12).2 (by decide) (by decide) ?_
            show Steps p.tables e below (s₁.setTop (mkF m 77 #[.val (.ref r0), .val (.int p1), .val (.int p2), .val (.int p3), .val (.int p4), .val (.int p5), .val (.int (p1 - p2)), .val (.int (((p4.toUInt32 >>> (((7 : Int32) * (p1 - p2)) &&& 31).toUInt32).toInt32) &&& (127 : Int32))), .val (.int (((p4.toUInt32 >>> (((7 : Int32) * (p1 - p2)) &&& 31).toUInt32).toInt32) &&& (127 : Int32)))] [])) _
            refine XS.iconst X0.here hx rfl (hb hby d2_77) ?_
            show Steps p.tables e below (s₁.setTop (mkF m 78 #[.val (.ref r0), .val (.int p1), .val (.int p2), .val (.int p3), .val (.int p4), .val (.int p5), .val (.int (p1 - p2)), .val (.int (((p4.toUInt32 >>> (((7 : Int32) * (p1 - p2)) &&& 31).toUInt32).toInt32) &&& (127 : Int32))), .val (.int (((p4.toUInt32 >>> (((7 : Int32) * (p1 - p2)) &&& 31).toUInt32).toInt32) &&& (127 : Int32)))] [(.int (0 : Int32))])) _
            exact retN X0 hx (t := .boolean) Bd.returns (by simp) (hb hby d2_78) hr
          · show Q2 Z r0 p1 p2 p3 p4 p5 kk vs w h0 n0 _ s₁.heap _
            rw [e0]
            exact ⟨by rw [fok, if_neg hc7_2, if_pos hc13_6, if_neg hc48_8, if_neg hc70_12], N0, rfl⟩
    · skip
      have G13 : ∀ t, Steps p.tables e below (s₁.setTop (mkF m 21 #[.val (.ref r0), .val (.int p1), .val (.int p2), .val (.int p3), .val (.int p4), .val (.int p5), .val (.int (p1 - p2)), .unset, .unset] [(.int p5), (.int w)])) t → Steps p.tables e below (s₁.setTop (entryFrame m #[(.ref r0), (.int p1), (.int p2), (.int p3), (.int p4), (.int p5)] 9)) t := by
        intro t kt
        refine G5 _ ?_
        show Steps p.tables e below (s₁.setTop (mkF m 13 #[.val (.ref r0), .val (.int p1), .val (.int p2), .val (.int p3), .val (.int p4), .val (.int p5), .val (.int (p1 - p2)), .unset, .unset] [(.int p3), (.int (p1 - p2))])) _
        refine XS.icmpNo X0.here hx rfl (hb hby d2_13) rfl (flt hc13_6).1 ?_
        show Steps p.tables e below (s₁.setTop (mkF m 16 #[.val (.ref r0), .val (.int p1), .val (.int p2), .val (.int p3), .val (.int p4), .val (.int p5), .val (.int (p1 - p2)), .unset, .unset] [])) _
        refine XS.aloadN X0.here hx rfl (hb hby d2_16) rfl rfl ?_
        show Steps p.tables e below (s₁.setTop (mkF m 17 #[.val (.ref r0), .val (.int p1), .val (.int p2), .val (.int p3), .val (.int p4), .val (.int p5), .val (.int (p1 - p2)), .unset, .unset] [(.ref r0)])) _
        refine XS.iloadN X0.here hx rfl (hb hby d2_17) rfl ?_
        show Steps p.tables e below (s₁.setTop (mkF m 18 #[.val (.ref r0), .val (.int p1), .val (.int p2), .val (.int p3), .val (.int p4), .val (.int p5), .val (.int (p1 - p2)), .unset, .unset] [(.int p1), (.ref r0)])) _
        refine X0.baloadBytes hx (j := p1) (v := (.int w)) (by rw [e0]; exact Ar.1) (State.isArrayOf_alike hZ.alike Ar.2.1) Ar.2.2 hin hat (g := (mkF m 18 #[.val (.ref r0), .val (.int p1), .val (.int p2), .val (.int p3), .val (.int p4), .val (.int p5), .val (.int (p1 - p2)), .unset, .unset] [(.int p1), (.ref r0)])) rfl rfl (hb hby d2_18) _ ?_
        show Steps p.tables e below (s₁.setTop (mkF m 19 #[.val (.ref r0), .val (.int p1), .val (.int p2), .val (.int p3), .val (.int p4), .val (.int p5), .val (.int (p1 - p2)), .unset, .unset] [(.int w)])) _
        refine XS.iload X0.here hx rfl (hb hby d2_19) rfl ?_
        exact kt
      by_cases hc21_14 : w = p5
      · skip
        obtain ⟨fs, hr, hrun, hended, hW, hsame⟩ := X0.leave (v := some (.int (1 : Int32))) (fun h => by rw [Bd.returns] at h; cases h)
        refine ⟨_, _, G13 _ ?_, hrun, hended, _, _, rfl, ?_, ⟨_, rfl⟩, hW, hsame.mono (by decide) (by decide)⟩
        · skip
          show Steps p.tables e below (s₁.setTop (mkF m 21 #[.val (.ref r0), .val (.int p1), .val (.int p2), .val (.int p3), .val (.int p4), .val (.int p5), .val (.int (p1 - p2)), .unset, .unset] [(.int p5), (.int w)])) _
          refine XS.icmpNo X0.here hx rfl (hb hby d2_21) rfl (teq hc21_14).2 ?_
          show Steps p.tables e below (s₁.setTop (mkF m 24 #[.val (.ref r0), .val (.int p1), .val (.int p2), .val (.int p3), .val (.int p4), .val (.int p5), .val (.int (p1 - p2)), .unset, .unset] [])) _
          refine XS.iconst X0.here hx rfl (hb hby d2_24) ?_
          show Steps p.tables e below (s₁.setTop (mkF m 25 #[.val (.ref r0), .val (.int p1), .val (.int p2), .val (.int p3), .val (.int p4), .val (.int p5), .val (.int (p1 - p2)), .unset, .unset] [(.int (1 : Int32))])) _
          refine XS.goto X0.here hx rfl (pc0 := 25) (pc' := 29) rfl (hb hby d2_25) (by decide) (by decide) ?_
          show Steps p.tables e below (s₁.setTop (mkF m 29 #[.val (.ref r0), .val (.int p1), .val (.int p2), .val (.int p3), .val (.int p4), .val (.int p5), .val (.int (p1 - p2)), .unset, .unset] [(.int (1 : Int32))])) _
          exact retN X0 hx (t := .boolean) Bd.returns (by simp) (hb hby d2_29) hr
        · show Q2 Z r0 p1 p2 p3 p4 p5 kk vs w h0 n0 _ s₁.heap _
          rw [e0]
          exact ⟨by rw [fok, if_neg hc7_2, if_neg hc13_6, if_pos hc21_14], N0, rfl⟩
      · skip
        obtain ⟨fs, hr, hrun, hended, hW, hsame⟩ := X0.leave (v := some (.int (0 : Int32))) (fun h => by rw [Bd.returns] at h; cases h)
        refine ⟨_, _, G13 _ ?_, hrun, hended, _, _, rfl, ?_, ⟨_, rfl⟩, hW, hsame.mono (by decide) (by decide)⟩
        · skip
          show Steps p.tables e below (s₁.setTop (mkF m 21 #[.val (.ref r0), .val (.int p1), .val (.int p2), .val (.int p3), .val (.int p4), .val (.int p5), .val (.int (p1 - p2)), .unset, .unset] [(.int p5), (.int w)])) _
          refine XS.icmpYes X0.here hx rfl (pc0 := 21) (pc' := 28) rfl (hb hby d2_21) rfl (feq hc21_14).2 (by decide) (by decide) ?_
          show Steps p.tables e below (s₁.setTop (mkF m 28 #[.val (.ref r0), .val (.int p1), .val (.int p2), .val (.int p3), .val (.int p4), .val (.int p5), .val (.int (p1 - p2)), .unset, .unset] [])) _
          refine XS.iconst X0.here hx rfl (hb hby d2_28) ?_
          show Steps p.tables e below (s₁.setTop (mkF m 29 #[.val (.ref r0), .val (.int p1), .val (.int p2), .val (.int p3), .val (.int p4), .val (.int p5), .val (.int (p1 - p2)), .unset, .unset] [(.int (0 : Int32))])) _
          exact retN X0 hx (t := .boolean) Bd.returns (by simp) (hb hby d2_29) hr
        · show Q2 Z r0 p1 p2 p3 p4 p5 kk vs w h0 n0 _ s₁.heap _
          rw [e0]
          exact ⟨by rw [fok, if_neg hc7_2, if_neg hc13_6, if_neg hc21_14], N0, rfl⟩
theorem own_at4 {a : Int32} (h : 0 ≤ a.toInt ∧ a.toInt ≤ 3) : a = 0 ∨ a = 1 ∨ a = 2 ∨ a = 3 := by
  have e : a.toInt = 0 ∨ a.toInt = 1 ∨ a.toInt = 2 ∨ a.toInt = 3 := by omega
  rcases e with e | e | e | e
  · exact Or.inl (Int32.toInt_inj.mp e)
  · exact Or.inr (Or.inl (Int32.toInt_inj.mp e))
  · exact Or.inr (Or.inr (Or.inl (Int32.toInt_inj.mp e)))
  · exact Or.inr (Or.inr (Or.inr (Int32.toInt_inj.mp e)))
theorem own_nar (x : Int32) : nar .byte (x.toInt8.toInt32) = x.toInt8.toInt32 := by
  show (x.toInt8.toInt32).toInt8.toInt32 = x.toInt8.toInt32
  simp
theorem own_out {i a n v f : Int32} (hf : nar .byte f = f) (h : (i - a) < (0 : Int32) ∨ ¬ ((i - a) < n)) : fok i a n v f (nar .byte f) = 1 := by
  rw [hf, fok]
  by_cases h0 : (i - a) < (0 : Int32)
  · rw [if_pos h0, if_pos rfl]
  · rw [if_neg h0]
    rcases h with h | h
    · exact absurd h h0
    · rw [if_neg h, if_pos rfl]
theorem own_mid {i a n v f y : Int32} (h0 : ¬ ((i - a) < (0 : Int32))) (h1 : (i - a) < n) (h2 : (i - a) < (n - (1 : Int32))) (hy : y = ((v.toUInt32 >>> (((7 : Int32) * (i - a)) &&& 31).toUInt32).toInt32)) : fok i a n v f (nar .byte (((y &&& (127 : Int32)) ||| (128 : Int32)).toInt8.toInt32)) = 1 := by
  rw [own_nar, fok, if_neg h0, if_pos h1, if_pos h2, hy, if_pos rfl]
theorem own_last {i a n v f y : Int32} (h0 : ¬ ((i - a) < (0 : Int32))) (h1 : (i - a) < n) (h2 : ¬ ((i - a) < (n - (1 : Int32)))) (hy : y = ((v.toUInt32 >>> (((7 : Int32) * (i - a)) &&& 31).toUInt32).toInt32)) (hy2 : ¬ ((127 : Int32) < y)) (hy3 : 0 ≤ y.toInt) : fok i a n v f (nar .byte (y.toInt8.toInt32)) = 1 := by
  have e : y &&& (127 : Int32) = y := by
    have m := c_mask y 127 7 (by decide) (by decide)
    have e1 : (127 : Int32).toInt = 127 := by decide
    rw [Int32.lt_iff_toInt_lt, e1] at hy2
    apply Int32.toInt_inj.mp
    rw [m]; omega
  rw [own_nar, fok, if_neg h0, if_pos h1, if_neg h2, ← hy, e, if_pos rfl]
theorem own_sh0 (v : Int32) : v = ((v.toUInt32 >>> (((7 : Int32) * (0 : Int32)) &&& 31).toUInt32).toInt32) := by
  apply Int32.toBitVec_inj.mp
  show v.toBitVec = v.toBitVec >>> 0
  simp
theorem own_nn0 (v : Int32) (hv : 0 ≤ v.toInt) : 0 ≤ (v).toInt ∧ (v).toInt = v.toInt / 1 := by

  have r := rng32 v

  omega
theorem own_sh1 (v : Int32) : ((v.toUInt32 >>> ((7 : Int32) &&& 31).toUInt32).toInt32) = ((v.toUInt32 >>> (((7 : Int32) * (1 : Int32)) &&& 31).toUInt32).toInt32) := by
  apply Int32.toBitVec_inj.mp
  show v.toBitVec >>> 7 = v.toBitVec >>> 7
  rfl
theorem own_nn1 (v : Int32) (hv : 0 ≤ v.toInt) : 0 ≤ (((v.toUInt32 >>> ((7 : Int32) &&& 31).toUInt32).toInt32)).toInt ∧ (((v.toUInt32 >>> ((7 : Int32) &&& 31).toUInt32).toInt32)).toInt = v.toInt / 128 := by
  have a1 := c_iushr v 7 7 (by decide) (by decide)
  have r := rng32 v
  rw [a1]
  omega
theorem own_sh2 (v : Int32) : ((((v.toUInt32 >>> ((7 : Int32) &&& 31).toUInt32).toInt32).toUInt32 >>> ((7 : Int32) &&& 31).toUInt32).toInt32) = ((v.toUInt32 >>> (((7 : Int32) * (2 : Int32)) &&& 31).toUInt32).toInt32) := by
  apply Int32.toBitVec_inj.mp
  show v.toBitVec >>> 7 >>> 7 = v.toBitVec >>> 14
  simp only [← BitVec.shiftRight_add]
theorem own_nn2 (v : Int32) (hv : 0 ≤ v.toInt) : 0 ≤ (((((v.toUInt32 >>> ((7 : Int32) &&& 31).toUInt32).toInt32).toUInt32 >>> ((7 : Int32) &&& 31).toUInt32).toInt32)).toInt ∧ (((((v.toUInt32 >>> ((7 : Int32) &&& 31).toUInt32).toInt32).toUInt32 >>> ((7 : Int32) &&& 31).toUInt32).toInt32)).toInt = v.toInt / 16384 := by
  have a1 := c_iushr v 7 7 (by decide) (by decide)
  have a2 := c_iushr ((v.toUInt32 >>> ((7 : Int32) &&& 31).toUInt32).toInt32) 7 7 (by decide) (by decide)
  have r := rng32 v
  rw [a2, a1]
  omega
theorem own_sh3 (v : Int32) : ((((((v.toUInt32 >>> ((7 : Int32) &&& 31).toUInt32).toInt32).toUInt32 >>> ((7 : Int32) &&& 31).toUInt32).toInt32).toUInt32 >>> ((7 : Int32) &&& 31).toUInt32).toInt32) = ((v.toUInt32 >>> (((7 : Int32) * (3 : Int32)) &&& 31).toUInt32).toInt32) := by
  apply Int32.toBitVec_inj.mp
  show v.toBitVec >>> 7 >>> 7 >>> 7 = v.toBitVec >>> 21
  simp only [← BitVec.shiftRight_add]
theorem own_nn3 (v : Int32) (hv : 0 ≤ v.toInt) : 0 ≤ (((((((v.toUInt32 >>> ((7 : Int32) &&& 31).toUInt32).toInt32).toUInt32 >>> ((7 : Int32) &&& 31).toUInt32).toInt32).toUInt32 >>> ((7 : Int32) &&& 31).toUInt32).toInt32)).toInt ∧ (((((((v.toUInt32 >>> ((7 : Int32) &&& 31).toUInt32).toInt32).toUInt32 >>> ((7 : Int32) &&& 31).toUInt32).toInt32).toUInt32 >>> ((7 : Int32) &&& 31).toUInt32).toInt32)).toInt = v.toInt / 2097152 := by
  have a1 := c_iushr v 7 7 (by decide) (by decide)
  have a2 := c_iushr ((v.toUInt32 >>> ((7 : Int32) &&& 31).toUInt32).toInt32) 7 7 (by decide) (by decide)
  have a3 := c_iushr ((((v.toUInt32 >>> ((7 : Int32) &&& 31).toUInt32).toInt32).toUInt32 >>> ((7 : Int32) &&& 31).toUInt32).toInt32) 7 7 (by decide) (by decide)
  have r := rng32 v
  rw [a3, a2, a1]
  omega
theorem own_sh4 (v : Int32) : ((((((((v.toUInt32 >>> ((7 : Int32) &&& 31).toUInt32).toInt32).toUInt32 >>> ((7 : Int32) &&& 31).toUInt32).toInt32).toUInt32 >>> ((7 : Int32) &&& 31).toUInt32).toInt32).toUInt32 >>> ((7 : Int32) &&& 31).toUInt32).toInt32) = ((v.toUInt32 >>> (((7 : Int32) * (4 : Int32)) &&& 31).toUInt32).toInt32) := by
  apply Int32.toBitVec_inj.mp
  show v.toBitVec >>> 7 >>> 7 >>> 7 >>> 7 = v.toBitVec >>> 28
  simp only [← BitVec.shiftRight_add]
theorem own_nn4 (v : Int32) (hv : 0 ≤ v.toInt) : 0 ≤ (((((((((v.toUInt32 >>> ((7 : Int32) &&& 31).toUInt32).toInt32).toUInt32 >>> ((7 : Int32) &&& 31).toUInt32).toInt32).toUInt32 >>> ((7 : Int32) &&& 31).toUInt32).toInt32).toUInt32 >>> ((7 : Int32) &&& 31).toUInt32).toInt32)).toInt ∧ (((((((((v.toUInt32 >>> ((7 : Int32) &&& 31).toUInt32).toInt32).toUInt32 >>> ((7 : Int32) &&& 31).toUInt32).toInt32).toUInt32 >>> ((7 : Int32) &&& 31).toUInt32).toInt32).toUInt32 >>> ((7 : Int32) &&& 31).toUInt32).toInt32)).toInt = v.toInt / 268435456 := by
  have a1 := c_iushr v 7 7 (by decide) (by decide)
  have a2 := c_iushr ((v.toUInt32 >>> ((7 : Int32) &&& 31).toUInt32).toInt32) 7 7 (by decide) (by decide)
  have a3 := c_iushr ((((v.toUInt32 >>> ((7 : Int32) &&& 31).toUInt32).toInt32).toUInt32 >>> ((7 : Int32) &&& 31).toUInt32).toInt32) 7 7 (by decide) (by decide)
  have a4 := c_iushr ((((((v.toUInt32 >>> ((7 : Int32) &&& 31).toUInt32).toInt32).toUInt32 >>> ((7 : Int32) &&& 31).toUInt32).toInt32).toUInt32 >>> ((7 : Int32) &&& 31).toUInt32).toInt32) 7 7 (by decide) (by decide)
  have r := rng32 v
  rw [a4, a3, a2, a1]
  omega
theorem own_cases (v n : Int32) (hv : 0 ≤ v.toInt) (hn : n = (if v < (128 : Int32) then (1 : Int32) else (if v < (16384 : Int32) then (2 : Int32) else (if v < (2097152 : Int32) then (3 : Int32) else (if v < (268435456 : Int32) then (4 : Int32) else (5 : Int32)))))) : (¬ ((127 : Int32) < v) ∧ n = (1 : Int32)) ∨ ((127 : Int32) < v ∧ ¬ ((127 : Int32) < ((v.toUInt32 >>> ((7 : Int32) &&& 31).toUInt32).toInt32)) ∧ n = (2 : Int32)) ∨ ((127 : Int32) < v ∧ (127 : Int32) < ((v.toUInt32 >>> ((7 : Int32) &&& 31).toUInt32).toInt32) ∧ ¬ ((127 : Int32) < ((((v.toUInt32 >>> ((7 : Int32) &&& 31).toUInt32).toInt32).toUInt32 >>> ((7 : Int32) &&& 31).toUInt32).toInt32)) ∧ n = (3 : Int32)) ∨ ((127 : Int32) < v ∧ (127 : Int32) < ((v.toUInt32 >>> ((7 : Int32) &&& 31).toUInt32).toInt32) ∧ (127 : Int32) < ((((v.toUInt32 >>> ((7 : Int32) &&& 31).toUInt32).toInt32).toUInt32 >>> ((7 : Int32) &&& 31).toUInt32).toInt32) ∧ ¬ ((127 : Int32) < ((((((v.toUInt32 >>> ((7 : Int32) &&& 31).toUInt32).toInt32).toUInt32 >>> ((7 : Int32) &&& 31).toUInt32).toInt32).toUInt32 >>> ((7 : Int32) &&& 31).toUInt32).toInt32)) ∧ n = (4 : Int32)) ∨ ((127 : Int32) < v ∧ (127 : Int32) < ((v.toUInt32 >>> ((7 : Int32) &&& 31).toUInt32).toInt32) ∧ (127 : Int32) < ((((v.toUInt32 >>> ((7 : Int32) &&& 31).toUInt32).toInt32).toUInt32 >>> ((7 : Int32) &&& 31).toUInt32).toInt32) ∧ (127 : Int32) < ((((((v.toUInt32 >>> ((7 : Int32) &&& 31).toUInt32).toInt32).toUInt32 >>> ((7 : Int32) &&& 31).toUInt32).toInt32).toUInt32 >>> ((7 : Int32) &&& 31).toUInt32).toInt32) ∧ n = (5 : Int32)) := by
  have r := rng32 v
  have e127 : (127 : Int32).toInt = 127 := by decide
  have t0 : (128 : Int32).toInt = 128 := by decide
  have t1 : (16384 : Int32).toInt = 16384 := by decide
  have t2 : (2097152 : Int32).toInt = 2097152 := by decide
  have t3 : (268435456 : Int32).toInt = 268435456 := by decide
  have s1 := (own_nn1 v hv).2
  have s2 := (own_nn2 v hv).2
  have s3 := (own_nn3 v hv).2
  simp only [Int32.lt_iff_toInt_lt, e127, t0, t1, t2, t3, s1, s2, s3] at hn ⊢
  by_cases k0 : v.toInt < 128
  · rw [if_pos k0] at hn; exact Or.inl ⟨by omega, hn⟩
  · rw [if_neg k0] at hn
    by_cases k1 : v.toInt < 16384
    · rw [if_pos k1] at hn; exact Or.inr (Or.inl ⟨by omega, by omega, hn⟩)
    · rw [if_neg k1] at hn
      by_cases k2 : v.toInt < 2097152
      · rw [if_pos k2] at hn; exact Or.inr (Or.inr (Or.inl ⟨by omega, by omega, by omega, hn⟩))
      · rw [if_neg k2] at hn
        by_cases k3 : v.toInt < 268435456
        · rw [if_pos k3] at hn; exact Or.inr (Or.inr (Or.inr (Or.inl ⟨by omega, by omega, by omega, by omega, hn⟩)))
        · rw [if_neg k3] at hn; exact Or.inr (Or.inr (Or.inr (Or.inr ⟨by omega, by omega, by omega, by omega, hn⟩)))
theorem own_end (a v n : Int32) (hv : 0 ≤ v.toInt) (hn : n = (if v < (128 : Int32) then (1 : Int32) else (if v < (16384 : Int32) then (2 : Int32) else (if v < (2097152 : Int32) then (3 : Int32) else (if v < (268435456 : Int32) then (4 : Int32) else (5 : Int32)))))) : f1 a v = (a + n) := by
  rcases own_cases v n hv hn with ⟨c1, rfl⟩ | ⟨c1, c2, rfl⟩ | ⟨c1, c2, c3, rfl⟩ | ⟨c1, c2, c3, c4, rfl⟩ | ⟨c1, c2, c3, c4, rfl⟩
  · rw [f1, if_neg c1]
  · rw [f1, if_pos c1, if_neg c2]; simp only [Int32.add_assoc]; rfl
  · rw [f1, if_pos c1, if_pos c2, if_neg c3]; simp only [Int32.add_assoc]; rfl
  · rw [f1, if_pos c1, if_pos c2, if_pos c3, if_neg c4]; simp only [Int32.add_assoc]; rfl
  · rw [f1, if_pos c1, if_pos c2, if_pos c3, if_pos c4]; simp only [Int32.add_assoc]; rfl
theorem own_ok0 (a v f n : Int32) (ha : 0 ≤ a.toInt ∧ a.toInt ≤ 3) (hv : 0 ≤ v.toInt) (hf : nar .byte f = f) (hn : n = (if v < (128 : Int32) then (1 : Int32) else (if v < (16384 : Int32) then (2 : Int32) else (if v < (2097152 : Int32) then (3 : Int32) else (if v < (268435456 : Int32) then (4 : Int32) else (5 : Int32)))))) : ∃ w, (fput [(.int (nar .byte f)), (.int (nar .byte f)), (.int (nar .byte f)), (.int (nar .byte f)), (.int (nar .byte f)), (.int (nar .byte f)), (.int (nar .byte f)), (.int (nar .byte f)), (.int (nar .byte f)), (.int (nar .byte f))] a v).getD ((0 : Int32)).toNatClampNeg (.int (0 : Int32)) = .int w ∧ fok (0 : Int32) a n v f w = 1 := by
  have r127 := own_nn4 v hv
  have r := rng32 v
  rcases own_cases v n hv hn with ⟨c1, rfl⟩ | ⟨c1, c2, rfl⟩ | ⟨c1, c2, c3, rfl⟩ | ⟨c1, c2, c3, c4, rfl⟩ | ⟨c1, c2, c3, c4, rfl⟩
  · rw [fput, if_neg c1]
    rcases own_at4 ha with rfl | rfl | rfl | rfl
    · exact ⟨_, rfl, own_last (by decide) (by decide) (by decide) (own_sh0 v) c1 (own_nn0 v hv).1⟩
    · exact ⟨_, rfl, own_out hf (by decide)⟩
    · exact ⟨_, rfl, own_out hf (by decide)⟩
    · exact ⟨_, rfl, own_out hf (by decide)⟩
  · rw [fput, if_pos c1, if_neg c2]
    rcases own_at4 ha with rfl | rfl | rfl | rfl
    · exact ⟨_, rfl, own_mid (by decide) (by decide) (by decide) (own_sh0 v)⟩
    · exact ⟨_, rfl, own_out hf (by decide)⟩
    · exact ⟨_, rfl, own_out hf (by decide)⟩
    · exact ⟨_, rfl, own_out hf (by decide)⟩
  · rw [fput, if_pos c1, if_pos c2, if_neg c3]
    rcases own_at4 ha with rfl | rfl | rfl | rfl
    · exact ⟨_, rfl, own_mid (by decide) (by decide) (by decide) (own_sh0 v)⟩
    · exact ⟨_, rfl, own_out hf (by decide)⟩
    · exact ⟨_, rfl, own_out hf (by decide)⟩
    · exact ⟨_, rfl, own_out hf (by decide)⟩
  · rw [fput, if_pos c1, if_pos c2, if_pos c3, if_neg c4]
    rcases own_at4 ha with rfl | rfl | rfl | rfl
    · exact ⟨_, rfl, own_mid (by decide) (by decide) (by decide) (own_sh0 v)⟩
    · exact ⟨_, rfl, own_out hf (by decide)⟩
    · exact ⟨_, rfl, own_out hf (by decide)⟩
    · exact ⟨_, rfl, own_out hf (by decide)⟩
  · rw [fput, if_pos c1, if_pos c2, if_pos c3, if_pos c4]
    rcases own_at4 ha with rfl | rfl | rfl | rfl
    · exact ⟨_, rfl, own_mid (by decide) (by decide) (by decide) (own_sh0 v)⟩
    · exact ⟨_, rfl, own_out hf (by decide)⟩
    · exact ⟨_, rfl, own_out hf (by decide)⟩
    · exact ⟨_, rfl, own_out hf (by decide)⟩
theorem own_ok1 (a v f n : Int32) (ha : 0 ≤ a.toInt ∧ a.toInt ≤ 3) (hv : 0 ≤ v.toInt) (hf : nar .byte f = f) (hn : n = (if v < (128 : Int32) then (1 : Int32) else (if v < (16384 : Int32) then (2 : Int32) else (if v < (2097152 : Int32) then (3 : Int32) else (if v < (268435456 : Int32) then (4 : Int32) else (5 : Int32)))))) : ∃ w, (fput [(.int (nar .byte f)), (.int (nar .byte f)), (.int (nar .byte f)), (.int (nar .byte f)), (.int (nar .byte f)), (.int (nar .byte f)), (.int (nar .byte f)), (.int (nar .byte f)), (.int (nar .byte f)), (.int (nar .byte f))] a v).getD ((1 : Int32)).toNatClampNeg (.int (0 : Int32)) = .int w ∧ fok (1 : Int32) a n v f w = 1 := by
  have r127 := own_nn4 v hv
  have r := rng32 v
  rcases own_cases v n hv hn with ⟨c1, rfl⟩ | ⟨c1, c2, rfl⟩ | ⟨c1, c2, c3, rfl⟩ | ⟨c1, c2, c3, c4, rfl⟩ | ⟨c1, c2, c3, c4, rfl⟩
  · rw [fput, if_neg c1]
    rcases own_at4 ha with rfl | rfl | rfl | rfl
    · exact ⟨_, rfl, own_out hf (by decide)⟩
    · exact ⟨_, rfl, own_last (by decide) (by decide) (by decide) (own_sh0 v) c1 (own_nn0 v hv).1⟩
    · exact ⟨_, rfl, own_out hf (by decide)⟩
    · exact ⟨_, rfl, own_out hf (by decide)⟩
  · rw [fput, if_pos c1, if_neg c2]
    rcases own_at4 ha with rfl | rfl | rfl | rfl
    · exact ⟨_, rfl, own_last (by decide) (by decide) (by decide) (own_sh1 v) c2 (own_nn1 v hv).1⟩
    · exact ⟨_, rfl, own_mid (by decide) (by decide) (by decide) (own_sh0 v)⟩
    · exact ⟨_, rfl, own_out hf (by decide)⟩
    · exact ⟨_, rfl, own_out hf (by decide)⟩
  · rw [fput, if_pos c1, if_pos c2, if_neg c3]
    rcases own_at4 ha with rfl | rfl | rfl | rfl
    · exact ⟨_, rfl, own_mid (by decide) (by decide) (by decide) (own_sh1 v)⟩
    · exact ⟨_, rfl, own_mid (by decide) (by decide) (by decide) (own_sh0 v)⟩
    · exact ⟨_, rfl, own_out hf (by decide)⟩
    · exact ⟨_, rfl, own_out hf (by decide)⟩
  · rw [fput, if_pos c1, if_pos c2, if_pos c3, if_neg c4]
    rcases own_at4 ha with rfl | rfl | rfl | rfl
    · exact ⟨_, rfl, own_mid (by decide) (by decide) (by decide) (own_sh1 v)⟩
    · exact ⟨_, rfl, own_mid (by decide) (by decide) (by decide) (own_sh0 v)⟩
    · exact ⟨_, rfl, own_out hf (by decide)⟩
    · exact ⟨_, rfl, own_out hf (by decide)⟩
  · rw [fput, if_pos c1, if_pos c2, if_pos c3, if_pos c4]
    rcases own_at4 ha with rfl | rfl | rfl | rfl
    · exact ⟨_, rfl, own_mid (by decide) (by decide) (by decide) (own_sh1 v)⟩
    · exact ⟨_, rfl, own_mid (by decide) (by decide) (by decide) (own_sh0 v)⟩
    · exact ⟨_, rfl, own_out hf (by decide)⟩
    · exact ⟨_, rfl, own_out hf (by decide)⟩
theorem own_ok2 (a v f n : Int32) (ha : 0 ≤ a.toInt ∧ a.toInt ≤ 3) (hv : 0 ≤ v.toInt) (hf : nar .byte f = f) (hn : n = (if v < (128 : Int32) then (1 : Int32) else (if v < (16384 : Int32) then (2 : Int32) else (if v < (2097152 : Int32) then (3 : Int32) else (if v < (268435456 : Int32) then (4 : Int32) else (5 : Int32)))))) : ∃ w, (fput [(.int (nar .byte f)), (.int (nar .byte f)), (.int (nar .byte f)), (.int (nar .byte f)), (.int (nar .byte f)), (.int (nar .byte f)), (.int (nar .byte f)), (.int (nar .byte f)), (.int (nar .byte f)), (.int (nar .byte f))] a v).getD ((2 : Int32)).toNatClampNeg (.int (0 : Int32)) = .int w ∧ fok (2 : Int32) a n v f w = 1 := by
  have r127 := own_nn4 v hv
  have r := rng32 v
  rcases own_cases v n hv hn with ⟨c1, rfl⟩ | ⟨c1, c2, rfl⟩ | ⟨c1, c2, c3, rfl⟩ | ⟨c1, c2, c3, c4, rfl⟩ | ⟨c1, c2, c3, c4, rfl⟩
  · rw [fput, if_neg c1]
    rcases own_at4 ha with rfl | rfl | rfl | rfl
    · exact ⟨_, rfl, own_out hf (by decide)⟩
    · exact ⟨_, rfl, own_out hf (by decide)⟩
    · exact ⟨_, rfl, own_last (by decide) (by decide) (by decide) (own_sh0 v) c1 (own_nn0 v hv).1⟩
    · exact ⟨_, rfl, own_out hf (by decide)⟩
  · rw [fput, if_pos c1, if_neg c2]
    rcases own_at4 ha with rfl | rfl | rfl | rfl
    · exact ⟨_, rfl, own_out hf (by decide)⟩
    · exact ⟨_, rfl, own_last (by decide) (by decide) (by decide) (own_sh1 v) c2 (own_nn1 v hv).1⟩
    · exact ⟨_, rfl, own_mid (by decide) (by decide) (by decide) (own_sh0 v)⟩
    · exact ⟨_, rfl, own_out hf (by decide)⟩
  · rw [fput, if_pos c1, if_pos c2, if_neg c3]
    rcases own_at4 ha with rfl | rfl | rfl | rfl
    · exact ⟨_, rfl, own_last (by decide) (by decide) (by decide) (own_sh2 v) c3 (own_nn2 v hv).1⟩
    · exact ⟨_, rfl, own_mid (by decide) (by decide) (by decide) (own_sh1 v)⟩
    · exact ⟨_, rfl, own_mid (by decide) (by decide) (by decide) (own_sh0 v)⟩
    · exact ⟨_, rfl, own_out hf (by decide)⟩
  · rw [fput, if_pos c1, if_pos c2, if_pos c3, if_neg c4]
    rcases own_at4 ha with rfl | rfl | rfl | rfl
    · exact ⟨_, rfl, own_mid (by decide) (by decide) (by decide) (own_sh2 v)⟩
    · exact ⟨_, rfl, own_mid (by decide) (by decide) (by decide) (own_sh1 v)⟩
    · exact ⟨_, rfl, own_mid (by decide) (by decide) (by decide) (own_sh0 v)⟩
    · exact ⟨_, rfl, own_out hf (by decide)⟩
  · rw [fput, if_pos c1, if_pos c2, if_pos c3, if_pos c4]
    rcases own_at4 ha with rfl | rfl | rfl | rfl
    · exact ⟨_, rfl, own_mid (by decide) (by decide) (by decide) (own_sh2 v)⟩
    · exact ⟨_, rfl, own_mid (by decide) (by decide) (by decide) (own_sh1 v)⟩
    · exact ⟨_, rfl, own_mid (by decide) (by decide) (by decide) (own_sh0 v)⟩
    · exact ⟨_, rfl, own_out hf (by decide)⟩
theorem own_ok3 (a v f n : Int32) (ha : 0 ≤ a.toInt ∧ a.toInt ≤ 3) (hv : 0 ≤ v.toInt) (hf : nar .byte f = f) (hn : n = (if v < (128 : Int32) then (1 : Int32) else (if v < (16384 : Int32) then (2 : Int32) else (if v < (2097152 : Int32) then (3 : Int32) else (if v < (268435456 : Int32) then (4 : Int32) else (5 : Int32)))))) : ∃ w, (fput [(.int (nar .byte f)), (.int (nar .byte f)), (.int (nar .byte f)), (.int (nar .byte f)), (.int (nar .byte f)), (.int (nar .byte f)), (.int (nar .byte f)), (.int (nar .byte f)), (.int (nar .byte f)), (.int (nar .byte f))] a v).getD ((3 : Int32)).toNatClampNeg (.int (0 : Int32)) = .int w ∧ fok (3 : Int32) a n v f w = 1 := by
  have r127 := own_nn4 v hv
  have r := rng32 v
  rcases own_cases v n hv hn with ⟨c1, rfl⟩ | ⟨c1, c2, rfl⟩ | ⟨c1, c2, c3, rfl⟩ | ⟨c1, c2, c3, c4, rfl⟩ | ⟨c1, c2, c3, c4, rfl⟩
  · rw [fput, if_neg c1]
    rcases own_at4 ha with rfl | rfl | rfl | rfl
    · exact ⟨_, rfl, own_out hf (by decide)⟩
    · exact ⟨_, rfl, own_out hf (by decide)⟩
    · exact ⟨_, rfl, own_out hf (by decide)⟩
    · exact ⟨_, rfl, own_last (by decide) (by decide) (by decide) (own_sh0 v) c1 (own_nn0 v hv).1⟩
  · rw [fput, if_pos c1, if_neg c2]
    rcases own_at4 ha with rfl | rfl | rfl | rfl
    · exact ⟨_, rfl, own_out hf (by decide)⟩
    · exact ⟨_, rfl, own_out hf (by decide)⟩
    · exact ⟨_, rfl, own_last (by decide) (by decide) (by decide) (own_sh1 v) c2 (own_nn1 v hv).1⟩
    · exact ⟨_, rfl, own_mid (by decide) (by decide) (by decide) (own_sh0 v)⟩
  · rw [fput, if_pos c1, if_pos c2, if_neg c3]
    rcases own_at4 ha with rfl | rfl | rfl | rfl
    · exact ⟨_, rfl, own_out hf (by decide)⟩
    · exact ⟨_, rfl, own_last (by decide) (by decide) (by decide) (own_sh2 v) c3 (own_nn2 v hv).1⟩
    · exact ⟨_, rfl, own_mid (by decide) (by decide) (by decide) (own_sh1 v)⟩
    · exact ⟨_, rfl, own_mid (by decide) (by decide) (by decide) (own_sh0 v)⟩
  · rw [fput, if_pos c1, if_pos c2, if_pos c3, if_neg c4]
    rcases own_at4 ha with rfl | rfl | rfl | rfl
    · exact ⟨_, rfl, own_last (by decide) (by decide) (by decide) (own_sh3 v) c4 (own_nn3 v hv).1⟩
    · exact ⟨_, rfl, own_mid (by decide) (by decide) (by decide) (own_sh2 v)⟩
    · exact ⟨_, rfl, own_mid (by decide) (by decide) (by decide) (own_sh1 v)⟩
    · exact ⟨_, rfl, own_mid (by decide) (by decide) (by decide) (own_sh0 v)⟩
  · rw [fput, if_pos c1, if_pos c2, if_pos c3, if_pos c4]
    rcases own_at4 ha with rfl | rfl | rfl | rfl
    · exact ⟨_, rfl, own_mid (by decide) (by decide) (by decide) (own_sh3 v)⟩
    · exact ⟨_, rfl, own_mid (by decide) (by decide) (by decide) (own_sh2 v)⟩
    · exact ⟨_, rfl, own_mid (by decide) (by decide) (by decide) (own_sh1 v)⟩
    · exact ⟨_, rfl, own_mid (by decide) (by decide) (by decide) (own_sh0 v)⟩
theorem own_ok4 (a v f n : Int32) (ha : 0 ≤ a.toInt ∧ a.toInt ≤ 3) (hv : 0 ≤ v.toInt) (hf : nar .byte f = f) (hn : n = (if v < (128 : Int32) then (1 : Int32) else (if v < (16384 : Int32) then (2 : Int32) else (if v < (2097152 : Int32) then (3 : Int32) else (if v < (268435456 : Int32) then (4 : Int32) else (5 : Int32)))))) : ∃ w, (fput [(.int (nar .byte f)), (.int (nar .byte f)), (.int (nar .byte f)), (.int (nar .byte f)), (.int (nar .byte f)), (.int (nar .byte f)), (.int (nar .byte f)), (.int (nar .byte f)), (.int (nar .byte f)), (.int (nar .byte f))] a v).getD ((4 : Int32)).toNatClampNeg (.int (0 : Int32)) = .int w ∧ fok (4 : Int32) a n v f w = 1 := by
  have r127 := own_nn4 v hv
  have r := rng32 v
  rcases own_cases v n hv hn with ⟨c1, rfl⟩ | ⟨c1, c2, rfl⟩ | ⟨c1, c2, c3, rfl⟩ | ⟨c1, c2, c3, c4, rfl⟩ | ⟨c1, c2, c3, c4, rfl⟩
  · rw [fput, if_neg c1]
    rcases own_at4 ha with rfl | rfl | rfl | rfl
    · exact ⟨_, rfl, own_out hf (by decide)⟩
    · exact ⟨_, rfl, own_out hf (by decide)⟩
    · exact ⟨_, rfl, own_out hf (by decide)⟩
    · exact ⟨_, rfl, own_out hf (by decide)⟩
  · rw [fput, if_pos c1, if_neg c2]
    rcases own_at4 ha with rfl | rfl | rfl | rfl
    · exact ⟨_, rfl, own_out hf (by decide)⟩
    · exact ⟨_, rfl, own_out hf (by decide)⟩
    · exact ⟨_, rfl, own_out hf (by decide)⟩
    · exact ⟨_, rfl, own_last (by decide) (by decide) (by decide) (own_sh1 v) c2 (own_nn1 v hv).1⟩
  · rw [fput, if_pos c1, if_pos c2, if_neg c3]
    rcases own_at4 ha with rfl | rfl | rfl | rfl
    · exact ⟨_, rfl, own_out hf (by decide)⟩
    · exact ⟨_, rfl, own_out hf (by decide)⟩
    · exact ⟨_, rfl, own_last (by decide) (by decide) (by decide) (own_sh2 v) c3 (own_nn2 v hv).1⟩
    · exact ⟨_, rfl, own_mid (by decide) (by decide) (by decide) (own_sh1 v)⟩
  · rw [fput, if_pos c1, if_pos c2, if_pos c3, if_neg c4]
    rcases own_at4 ha with rfl | rfl | rfl | rfl
    · exact ⟨_, rfl, own_out hf (by decide)⟩
    · exact ⟨_, rfl, own_last (by decide) (by decide) (by decide) (own_sh3 v) c4 (own_nn3 v hv).1⟩
    · exact ⟨_, rfl, own_mid (by decide) (by decide) (by decide) (own_sh2 v)⟩
    · exact ⟨_, rfl, own_mid (by decide) (by decide) (by decide) (own_sh1 v)⟩
  · rw [fput, if_pos c1, if_pos c2, if_pos c3, if_pos c4]
    rcases own_at4 ha with rfl | rfl | rfl | rfl
    · exact ⟨_, rfl, own_last (by decide) (by decide) (by decide) (own_sh4 v) (own_v4 v) (own_nn4 v hv).1⟩
    · exact ⟨_, rfl, own_mid (by decide) (by decide) (by decide) (own_sh3 v)⟩
    · exact ⟨_, rfl, own_mid (by decide) (by decide) (by decide) (own_sh2 v)⟩
    · exact ⟨_, rfl, own_mid (by decide) (by decide) (by decide) (own_sh1 v)⟩
theorem own_ok5 (a v f n : Int32) (ha : 0 ≤ a.toInt ∧ a.toInt ≤ 3) (hv : 0 ≤ v.toInt) (hf : nar .byte f = f) (hn : n = (if v < (128 : Int32) then (1 : Int32) else (if v < (16384 : Int32) then (2 : Int32) else (if v < (2097152 : Int32) then (3 : Int32) else (if v < (268435456 : Int32) then (4 : Int32) else (5 : Int32)))))) : ∃ w, (fput [(.int (nar .byte f)), (.int (nar .byte f)), (.int (nar .byte f)), (.int (nar .byte f)), (.int (nar .byte f)), (.int (nar .byte f)), (.int (nar .byte f)), (.int (nar .byte f)), (.int (nar .byte f)), (.int (nar .byte f))] a v).getD ((5 : Int32)).toNatClampNeg (.int (0 : Int32)) = .int w ∧ fok (5 : Int32) a n v f w = 1 := by
  have r127 := own_nn4 v hv
  have r := rng32 v
  rcases own_cases v n hv hn with ⟨c1, rfl⟩ | ⟨c1, c2, rfl⟩ | ⟨c1, c2, c3, rfl⟩ | ⟨c1, c2, c3, c4, rfl⟩ | ⟨c1, c2, c3, c4, rfl⟩
  · rw [fput, if_neg c1]
    rcases own_at4 ha with rfl | rfl | rfl | rfl
    · exact ⟨_, rfl, own_out hf (by decide)⟩
    · exact ⟨_, rfl, own_out hf (by decide)⟩
    · exact ⟨_, rfl, own_out hf (by decide)⟩
    · exact ⟨_, rfl, own_out hf (by decide)⟩
  · rw [fput, if_pos c1, if_neg c2]
    rcases own_at4 ha with rfl | rfl | rfl | rfl
    · exact ⟨_, rfl, own_out hf (by decide)⟩
    · exact ⟨_, rfl, own_out hf (by decide)⟩
    · exact ⟨_, rfl, own_out hf (by decide)⟩
    · exact ⟨_, rfl, own_out hf (by decide)⟩
  · rw [fput, if_pos c1, if_pos c2, if_neg c3]
    rcases own_at4 ha with rfl | rfl | rfl | rfl
    · exact ⟨_, rfl, own_out hf (by decide)⟩
    · exact ⟨_, rfl, own_out hf (by decide)⟩
    · exact ⟨_, rfl, own_out hf (by decide)⟩
    · exact ⟨_, rfl, own_last (by decide) (by decide) (by decide) (own_sh2 v) c3 (own_nn2 v hv).1⟩
  · rw [fput, if_pos c1, if_pos c2, if_pos c3, if_neg c4]
    rcases own_at4 ha with rfl | rfl | rfl | rfl
    · exact ⟨_, rfl, own_out hf (by decide)⟩
    · exact ⟨_, rfl, own_out hf (by decide)⟩
    · exact ⟨_, rfl, own_last (by decide) (by decide) (by decide) (own_sh3 v) c4 (own_nn3 v hv).1⟩
    · exact ⟨_, rfl, own_mid (by decide) (by decide) (by decide) (own_sh2 v)⟩
  · rw [fput, if_pos c1, if_pos c2, if_pos c3, if_pos c4]
    rcases own_at4 ha with rfl | rfl | rfl | rfl
    · exact ⟨_, rfl, own_out hf (by decide)⟩
    · exact ⟨_, rfl, own_last (by decide) (by decide) (by decide) (own_sh4 v) (own_v4 v) (own_nn4 v hv).1⟩
    · exact ⟨_, rfl, own_mid (by decide) (by decide) (by decide) (own_sh3 v)⟩
    · exact ⟨_, rfl, own_mid (by decide) (by decide) (by decide) (own_sh2 v)⟩
theorem own_ok6 (a v f n : Int32) (ha : 0 ≤ a.toInt ∧ a.toInt ≤ 3) (hv : 0 ≤ v.toInt) (hf : nar .byte f = f) (hn : n = (if v < (128 : Int32) then (1 : Int32) else (if v < (16384 : Int32) then (2 : Int32) else (if v < (2097152 : Int32) then (3 : Int32) else (if v < (268435456 : Int32) then (4 : Int32) else (5 : Int32)))))) : ∃ w, (fput [(.int (nar .byte f)), (.int (nar .byte f)), (.int (nar .byte f)), (.int (nar .byte f)), (.int (nar .byte f)), (.int (nar .byte f)), (.int (nar .byte f)), (.int (nar .byte f)), (.int (nar .byte f)), (.int (nar .byte f))] a v).getD ((6 : Int32)).toNatClampNeg (.int (0 : Int32)) = .int w ∧ fok (6 : Int32) a n v f w = 1 := by
  have r127 := own_nn4 v hv
  have r := rng32 v
  rcases own_cases v n hv hn with ⟨c1, rfl⟩ | ⟨c1, c2, rfl⟩ | ⟨c1, c2, c3, rfl⟩ | ⟨c1, c2, c3, c4, rfl⟩ | ⟨c1, c2, c3, c4, rfl⟩
  · rw [fput, if_neg c1]
    rcases own_at4 ha with rfl | rfl | rfl | rfl
    · exact ⟨_, rfl, own_out hf (by decide)⟩
    · exact ⟨_, rfl, own_out hf (by decide)⟩
    · exact ⟨_, rfl, own_out hf (by decide)⟩
    · exact ⟨_, rfl, own_out hf (by decide)⟩
  · rw [fput, if_pos c1, if_neg c2]
    rcases own_at4 ha with rfl | rfl | rfl | rfl
    · exact ⟨_, rfl, own_out hf (by decide)⟩
    · exact ⟨_, rfl, own_out hf (by decide)⟩
    · exact ⟨_, rfl, own_out hf (by decide)⟩
    · exact ⟨_, rfl, own_out hf (by decide)⟩
  · rw [fput, if_pos c1, if_pos c2, if_neg c3]
    rcases own_at4 ha with rfl | rfl | rfl | rfl
    · exact ⟨_, rfl, own_out hf (by decide)⟩
    · exact ⟨_, rfl, own_out hf (by decide)⟩
    · exact ⟨_, rfl, own_out hf (by decide)⟩
    · exact ⟨_, rfl, own_out hf (by decide)⟩
  · rw [fput, if_pos c1, if_pos c2, if_pos c3, if_neg c4]
    rcases own_at4 ha with rfl | rfl | rfl | rfl
    · exact ⟨_, rfl, own_out hf (by decide)⟩
    · exact ⟨_, rfl, own_out hf (by decide)⟩
    · exact ⟨_, rfl, own_out hf (by decide)⟩
    · exact ⟨_, rfl, own_last (by decide) (by decide) (by decide) (own_sh3 v) c4 (own_nn3 v hv).1⟩
  · rw [fput, if_pos c1, if_pos c2, if_pos c3, if_pos c4]
    rcases own_at4 ha with rfl | rfl | rfl | rfl
    · exact ⟨_, rfl, own_out hf (by decide)⟩
    · exact ⟨_, rfl, own_out hf (by decide)⟩
    · exact ⟨_, rfl, own_last (by decide) (by decide) (by decide) (own_sh4 v) (own_v4 v) (own_nn4 v hv).1⟩
    · exact ⟨_, rfl, own_mid (by decide) (by decide) (by decide) (own_sh3 v)⟩
theorem own_ok7 (a v f n : Int32) (ha : 0 ≤ a.toInt ∧ a.toInt ≤ 3) (hv : 0 ≤ v.toInt) (hf : nar .byte f = f) (hn : n = (if v < (128 : Int32) then (1 : Int32) else (if v < (16384 : Int32) then (2 : Int32) else (if v < (2097152 : Int32) then (3 : Int32) else (if v < (268435456 : Int32) then (4 : Int32) else (5 : Int32)))))) : ∃ w, (fput [(.int (nar .byte f)), (.int (nar .byte f)), (.int (nar .byte f)), (.int (nar .byte f)), (.int (nar .byte f)), (.int (nar .byte f)), (.int (nar .byte f)), (.int (nar .byte f)), (.int (nar .byte f)), (.int (nar .byte f))] a v).getD ((7 : Int32)).toNatClampNeg (.int (0 : Int32)) = .int w ∧ fok (7 : Int32) a n v f w = 1 := by
  have r127 := own_nn4 v hv
  have r := rng32 v
  rcases own_cases v n hv hn with ⟨c1, rfl⟩ | ⟨c1, c2, rfl⟩ | ⟨c1, c2, c3, rfl⟩ | ⟨c1, c2, c3, c4, rfl⟩ | ⟨c1, c2, c3, c4, rfl⟩
  · rw [fput, if_neg c1]
    rcases own_at4 ha with rfl | rfl | rfl | rfl
    · exact ⟨_, rfl, own_out hf (by decide)⟩
    · exact ⟨_, rfl, own_out hf (by decide)⟩
    · exact ⟨_, rfl, own_out hf (by decide)⟩
    · exact ⟨_, rfl, own_out hf (by decide)⟩
  · rw [fput, if_pos c1, if_neg c2]
    rcases own_at4 ha with rfl | rfl | rfl | rfl
    · exact ⟨_, rfl, own_out hf (by decide)⟩
    · exact ⟨_, rfl, own_out hf (by decide)⟩
    · exact ⟨_, rfl, own_out hf (by decide)⟩
    · exact ⟨_, rfl, own_out hf (by decide)⟩
  · rw [fput, if_pos c1, if_pos c2, if_neg c3]
    rcases own_at4 ha with rfl | rfl | rfl | rfl
    · exact ⟨_, rfl, own_out hf (by decide)⟩
    · exact ⟨_, rfl, own_out hf (by decide)⟩
    · exact ⟨_, rfl, own_out hf (by decide)⟩
    · exact ⟨_, rfl, own_out hf (by decide)⟩
  · rw [fput, if_pos c1, if_pos c2, if_pos c3, if_neg c4]
    rcases own_at4 ha with rfl | rfl | rfl | rfl
    · exact ⟨_, rfl, own_out hf (by decide)⟩
    · exact ⟨_, rfl, own_out hf (by decide)⟩
    · exact ⟨_, rfl, own_out hf (by decide)⟩
    · exact ⟨_, rfl, own_out hf (by decide)⟩
  · rw [fput, if_pos c1, if_pos c2, if_pos c3, if_pos c4]
    rcases own_at4 ha with rfl | rfl | rfl | rfl
    · exact ⟨_, rfl, own_out hf (by decide)⟩
    · exact ⟨_, rfl, own_out hf (by decide)⟩
    · exact ⟨_, rfl, own_out hf (by decide)⟩
    · exact ⟨_, rfl, own_last (by decide) (by decide) (by decide) (own_sh4 v) (own_v4 v) (own_nn4 v hv).1⟩
theorem own_ok8 (a v f n : Int32) (ha : 0 ≤ a.toInt ∧ a.toInt ≤ 3) (hv : 0 ≤ v.toInt) (hf : nar .byte f = f) (hn : n = (if v < (128 : Int32) then (1 : Int32) else (if v < (16384 : Int32) then (2 : Int32) else (if v < (2097152 : Int32) then (3 : Int32) else (if v < (268435456 : Int32) then (4 : Int32) else (5 : Int32)))))) : ∃ w, (fput [(.int (nar .byte f)), (.int (nar .byte f)), (.int (nar .byte f)), (.int (nar .byte f)), (.int (nar .byte f)), (.int (nar .byte f)), (.int (nar .byte f)), (.int (nar .byte f)), (.int (nar .byte f)), (.int (nar .byte f))] a v).getD ((8 : Int32)).toNatClampNeg (.int (0 : Int32)) = .int w ∧ fok (8 : Int32) a n v f w = 1 := by
  have r127 := own_nn4 v hv
  have r := rng32 v
  rcases own_cases v n hv hn with ⟨c1, rfl⟩ | ⟨c1, c2, rfl⟩ | ⟨c1, c2, c3, rfl⟩ | ⟨c1, c2, c3, c4, rfl⟩ | ⟨c1, c2, c3, c4, rfl⟩
  · rw [fput, if_neg c1]
    rcases own_at4 ha with rfl | rfl | rfl | rfl
    · exact ⟨_, rfl, own_out hf (by decide)⟩
    · exact ⟨_, rfl, own_out hf (by decide)⟩
    · exact ⟨_, rfl, own_out hf (by decide)⟩
    · exact ⟨_, rfl, own_out hf (by decide)⟩
  · rw [fput, if_pos c1, if_neg c2]
    rcases own_at4 ha with rfl | rfl | rfl | rfl
    · exact ⟨_, rfl, own_out hf (by decide)⟩
    · exact ⟨_, rfl, own_out hf (by decide)⟩
    · exact ⟨_, rfl, own_out hf (by decide)⟩
    · exact ⟨_, rfl, own_out hf (by decide)⟩
  · rw [fput, if_pos c1, if_pos c2, if_neg c3]
    rcases own_at4 ha with rfl | rfl | rfl | rfl
    · exact ⟨_, rfl, own_out hf (by decide)⟩
    · exact ⟨_, rfl, own_out hf (by decide)⟩
    · exact ⟨_, rfl, own_out hf (by decide)⟩
    · exact ⟨_, rfl, own_out hf (by decide)⟩
  · rw [fput, if_pos c1, if_pos c2, if_pos c3, if_neg c4]
    rcases own_at4 ha with rfl | rfl | rfl | rfl
    · exact ⟨_, rfl, own_out hf (by decide)⟩
    · exact ⟨_, rfl, own_out hf (by decide)⟩
    · exact ⟨_, rfl, own_out hf (by decide)⟩
    · exact ⟨_, rfl, own_out hf (by decide)⟩
  · rw [fput, if_pos c1, if_pos c2, if_pos c3, if_pos c4]
    rcases own_at4 ha with rfl | rfl | rfl | rfl
    · exact ⟨_, rfl, own_out hf (by decide)⟩
    · exact ⟨_, rfl, own_out hf (by decide)⟩
    · exact ⟨_, rfl, own_out hf (by decide)⟩
    · exact ⟨_, rfl, own_out hf (by decide)⟩
theorem own_ok9 (a v f n : Int32) (ha : 0 ≤ a.toInt ∧ a.toInt ≤ 3) (hv : 0 ≤ v.toInt) (hf : nar .byte f = f) (hn : n = (if v < (128 : Int32) then (1 : Int32) else (if v < (16384 : Int32) then (2 : Int32) else (if v < (2097152 : Int32) then (3 : Int32) else (if v < (268435456 : Int32) then (4 : Int32) else (5 : Int32)))))) : ∃ w, (fput [(.int (nar .byte f)), (.int (nar .byte f)), (.int (nar .byte f)), (.int (nar .byte f)), (.int (nar .byte f)), (.int (nar .byte f)), (.int (nar .byte f)), (.int (nar .byte f)), (.int (nar .byte f)), (.int (nar .byte f))] a v).getD ((9 : Int32)).toNatClampNeg (.int (0 : Int32)) = .int w ∧ fok (9 : Int32) a n v f w = 1 := by
  have r127 := own_nn4 v hv
  have r := rng32 v
  rcases own_cases v n hv hn with ⟨c1, rfl⟩ | ⟨c1, c2, rfl⟩ | ⟨c1, c2, c3, rfl⟩ | ⟨c1, c2, c3, c4, rfl⟩ | ⟨c1, c2, c3, c4, rfl⟩
  · rw [fput, if_neg c1]
    rcases own_at4 ha with rfl | rfl | rfl | rfl
    · exact ⟨_, rfl, own_out hf (by decide)⟩
    · exact ⟨_, rfl, own_out hf (by decide)⟩
    · exact ⟨_, rfl, own_out hf (by decide)⟩
    · exact ⟨_, rfl, own_out hf (by decide)⟩
  · rw [fput, if_pos c1, if_neg c2]
    rcases own_at4 ha with rfl | rfl | rfl | rfl
    · exact ⟨_, rfl, own_out hf (by decide)⟩
    · exact ⟨_, rfl, own_out hf (by decide)⟩
    · exact ⟨_, rfl, own_out hf (by decide)⟩
    · exact ⟨_, rfl, own_out hf (by decide)⟩
  · rw [fput, if_pos c1, if_pos c2, if_neg c3]
    rcases own_at4 ha with rfl | rfl | rfl | rfl
    · exact ⟨_, rfl, own_out hf (by decide)⟩
    · exact ⟨_, rfl, own_out hf (by decide)⟩
    · exact ⟨_, rfl, own_out hf (by decide)⟩
    · exact ⟨_, rfl, own_out hf (by decide)⟩
  · rw [fput, if_pos c1, if_pos c2, if_pos c3, if_neg c4]
    rcases own_at4 ha with rfl | rfl | rfl | rfl
    · exact ⟨_, rfl, own_out hf (by decide)⟩
    · exact ⟨_, rfl, own_out hf (by decide)⟩
    · exact ⟨_, rfl, own_out hf (by decide)⟩
    · exact ⟨_, rfl, own_out hf (by decide)⟩
  · rw [fput, if_pos c1, if_pos c2, if_pos c3, if_pos c4]
    rcases own_at4 ha with rfl | rfl | rfl | rfl
    · exact ⟨_, rfl, own_out hf (by decide)⟩
    · exact ⟨_, rfl, own_out hf (by decide)⟩
    · exact ⟨_, rfl, own_out hf (by decide)⟩
    · exact ⟨_, rfl, own_out hf (by decide)⟩
theorem own_val (x k : Int32) : 0 ≤ ((((x &&& (2147483647 : Int32)).toUInt32 >>> ((k &&& (31 : Int32)) &&& 31).toUInt32).toInt32)).toInt := by
  have m := c_mask x 2147483647 31 (by decide) (by decide)
  generalize hy : x &&& (2147483647 : Int32) = y at m ⊢
  generalize hz : (k &&& (31 : Int32)) &&& (31 : Int32) = z
  have e : ((y.toUInt32 >>> z.toUInt32).toInt32).toBitVec.toNat ≤ y.toBitVec.toNat := by
    show (y.toBitVec >>> (z.toBitVec.toNat % 32)).toNat ≤ _
    rw [BitVec.toNat_ushiftRight]
    exact Nat.shiftRight_le _ _
  have r := rng32 y
  have hyn : (y.toBitVec.toNat : Int) = y.toInt := by
    have := y.toBitVec.toInt_eq_toNat_cond
    have h1 : y.toInt = y.toBitVec.toInt := rfl
    have h2 := y.toBitVec.isLt
    split at this <;> omega
  have := ((y.toUInt32 >>> z.toUInt32).toInt32).toBitVec.toInt_eq_toNat_cond
  have h1 : ((y.toUInt32 >>> z.toUInt32).toInt32).toInt = ((y.toUInt32 >>> z.toUInt32).toInt32).toBitVec.toInt := rfl
  split at this <;> omega
theorem pd_0 : parseMethodDescriptor "([BII)I" = some ⟨[(.array .byte), .int, .int], some .int⟩ := by decide +kernel
theorem pd_1 : parseMethodDescriptor "([BIIIIB)Z" = some ⟨[(.array .byte), .int, .int, .int, .int, .byte], some .boolean⟩ := by decide +kernel
def Q0 (Z : State) (p0 : Int32) (p1 : Int32) (p2 : Int32) (p3 : Int32) (h0 : Heap) (n0 : Nat) (v : Option Value) (h : Heap) (L : List Loc) : Prop := v = some (.int (1 : Int32)) ∧ Fr n0 L
theorem ef_rm0 (m : MethodId) (x0 : Int32) (x1 : Int32) (x2 : Int32) (x3 : Int32) : entryFrame m #[(.int x0), (.int x1), (.int x2), (.int x3)] maxLocals = mkF m 0 #[.val (.int x0), .val (.int x1), .val (.int x2), .val (.int x3), .unset, .unset, .unset, .unset, .unset, .unset] [] := by first | (simp [entryFrame, mkF, argsToLocals, Value.category, maxLocals]; done) | rfl
set_option maxRecDepth 65536 in
set_option maxHeartbeats 40000000 in
theorem rm0 (l : Launch) (Z : State) (a0 : Array Value) (hw : ∀ d ∈ tables_1, d.before a0 Z = true) (ws : List Jvm.Cond) (p0 : Int32) (p1 : Int32) (p2 : Int32) (p3 : Int32) (h0 : Heap) (n0 : Nat) (Z0 : n0 ≤ h0.size) :
    MetFree l x (head1 (Jvm.Cond.code x code maxLocals ret :: ws) room_1) (fun a U => a = #[(.int p0), (.int p1), (.int p2), (.int p3)] ∧ Z.Warmed39 U.vm ∧ U.heap = h0) (fun _ _ _ _ _ => True) (fun _ U o U' => ∃ v L, o = .returned v ∧ Q0 Z p0 p1 p2 p3 h0 n0 v U'.heap L ∧ FrameEnd U o U' L room_1.cells room_1.slots) := by
  refine MetFree.of_bodySF (plainFor_of_name pnc_com_example_degree_degree_index_VarintPutPinLaw) hisR ?_
  intro p e s m args below meth c s₁ Bd hml0 hP hK
  obtain ⟨rfl, hZ, hh⟩ := hP
  have hx := Bd.exec
  have hby := Bd.bytes
  have hml : c.maxLocals = 10 := hml0
  have hown : s.vm.findClass "com/example/degree/degree/index/VarintPutPinLaw" = some m.cls := findClass_of_methodNamed Bd.named
  have hnm := (name_of_methodNamed Bd.named Bd.method).1
  have X0 : Stand p l e room_1 s m #[(.int p0), (.int p1), (.int p2), (.int p3)] below meth c s₁ [] 0 0 := Stand.of_body Bd
  have e0 : s₁.heap = h0 := by rw [← hh, Bd.state]; rfl
  have N0 := Fr.nil n0
  have kp0 : Keep h0 h0 [] := Keep.refl _ _
  have G0 : ∀ t, Steps p.tables e below (s₁.setTop (mkF m 0 #[.val (.int p0), .val (.int p1), .val (.int p2), .val (.int p3), .unset, .unset, .unset, .unset, .unset, .unset] [])) t → Steps p.tables e below (s₁.setTop (entryFrame m #[(.int p0), (.int p1), (.int p2), (.int p3)] maxLocals)) t := fun t k => castTop (ef_rm0 m p0 p1 p2 p3) k
  have G1 : ∀ t, Steps p.tables e below (s₁.setTop (mkF m 20 #[.val (.int p0), .val (.int p1), .val (.int p2), .val (.int p3), .val (.int (((p0 &&& (2147483647 : Int32)).toUInt32 >>> ((p1 &&& (31 : Int32)) &&& 31).toUInt32).toInt32)), .val (.int (p2 &&& (3 : Int32))), .val (.int (p3.toInt8.toInt32)), .unset, .unset, .unset] [])) t → Steps p.tables e below (s₁.setTop (entryFrame m #[(.int p0), (.int p1), (.int p2), (.int p3)] maxLocals)) t := by
    intro t kt
    refine G0 _ ?_
    show Steps p.tables e below (s₁.setTop (mkF m 0 #[.val (.int p0), .val (.int p1), .val (.int p2), .val (.int p3), .unset, .unset, .unset, .unset, .unset, .unset] [])) _
    refine XS.iloadN X0.here hx rfl (hb hby at_0) rfl ?_
    show Steps p.tables e below (s₁.setTop (mkF m 1 #[.val (.int p0), .val (.int p1), .val (.int p2), .val (.int p3), .unset, .unset, .unset, .unset, .unset, .unset] [(.int p0)])) _
    refine X0.ldcInt hx hown (mvT hZ (hw _ (List.mem_of_getElem? (i := 0) rfl))) (g := (mkF m 1 #[.val (.int p0), .val (.int p1), .val (.int p2), .val (.int p3), .unset, .unset, .unset, .unset, .unset, .unset] [(.int p0)])) rfl (hb hby at_1) _ ?_
    show Steps p.tables e below (s₁.setTop (mkF m 3 #[.val (.int p0), .val (.int p1), .val (.int p2), .val (.int p3), .unset, .unset, .unset, .unset, .unset, .unset] [(.int (2147483647 : Int32)), (.int p0)])) _
    refine XS.iand X0.here hx rfl (hb hby at_3) rfl ?_
    show Steps p.tables e below (s₁.setTop (mkF m 4 #[.val (.int p0), .val (.int p1), .val (.int p2), .val (.int p3), .unset, .unset, .unset, .unset, .unset, .unset] [(.int (p0 &&& (2147483647 : Int32)))])) _
    refine XS.iloadN X0.here hx rfl (hb hby at_4) rfl ?_
    show Steps p.tables e below (s₁.setTop (mkF m 5 #[.val (.int p0), .val (.int p1), .val (.int p2), .val (.int p3), .unset, .unset, .unset, .unset, .unset, .unset] [(.int p1), (.int (p0 &&& (2147483647 : Int32)))])) _
    refine XS.bipush X0.here hx rfl (hb hby at_5) ?_
    show Steps p.tables e below (s₁.setTop (mkF m 7 #[.val (.int p0), .val (.int p1), .val (.int p2), .val (.int p3), .unset, .unset, .unset, .unset, .unset, .unset] [(.int (31 : Int32)), (.int p1), (.int (p0 &&& (2147483647 : Int32)))])) _
    refine XS.iand X0.here hx rfl (hb hby at_7) rfl ?_
    show Steps p.tables e below (s₁.setTop (mkF m 8 #[.val (.int p0), .val (.int p1), .val (.int p2), .val (.int p3), .unset, .unset, .unset, .unset, .unset, .unset] [(.int (p1 &&& (31 : Int32))), (.int (p0 &&& (2147483647 : Int32)))])) _
    refine XS.iushr X0.here hx rfl (hb hby at_8) rfl ?_
    show Steps p.tables e below (s₁.setTop (mkF m 9 #[.val (.int p0), .val (.int p1), .val (.int p2), .val (.int p3), .unset, .unset, .unset, .unset, .unset, .unset] [(.int (((p0 &&& (2147483647 : Int32)).toUInt32 >>> ((p1 &&& (31 : Int32)) &&& 31).toUInt32).toInt32))])) _
    refine XS.istore X0.here hx rfl (hb hby at_9) rfl (l' := #[.val (.int p0), .val (.int p1), .val (.int p2), .val (.int p3), .val (.int (((p0 &&& (2147483647 : Int32)).toUInt32 >>> ((p1 &&& (31 : Int32)) &&& 31).toUInt32).toInt32)), .unset, .unset, .unset, .unset, .unset]) rfl ?_
    show Steps p.tables e below (s₁.setTop (mkF m 11 #[.val (.int p0), .val (.int p1), .val (.int p2), .val (.int p3), .val (.int (((p0 &&& (2147483647 : Int32)).toUInt32 >>> ((p1 &&& (31 : Int32)) &&& 31).toUInt32).toInt32)), .unset, .unset, .unset, .unset, .unset] [])) _
    refine XS.iloadN X0.here hx rfl (hb hby at_11) rfl ?_
    show Steps p.tables e below (s₁.setTop (mkF m 12 #[.val (.int p0), .val (.int p1), .val (.int p2), .val (.int p3), .val (.int (((p0 &&& (2147483647 : Int32)).toUInt32 >>> ((p1 &&& (31 : Int32)) &&& 31).toUInt32).toInt32)), .unset, .unset, .unset, .unset, .unset] [(.int p2)])) _
    refine XS.iconst X0.here hx rfl (hb hby at_12) ?_
    show Steps p.tables e below (s₁.setTop (mkF m 13 #[.val (.int p0), .val (.int p1), .val (.int p2), .val (.int p3), .val (.int (((p0 &&& (2147483647 : Int32)).toUInt32 >>> ((p1 &&& (31 : Int32)) &&& 31).toUInt32).toInt32)), .unset, .unset, .unset, .unset, .unset] [(.int (3 : Int32)), (.int p2)])) _
    refine XS.iand X0.here hx rfl (hb hby at_13) rfl ?_
    show Steps p.tables e below (s₁.setTop (mkF m 14 #[.val (.int p0), .val (.int p1), .val (.int p2), .val (.int p3), .val (.int (((p0 &&& (2147483647 : Int32)).toUInt32 >>> ((p1 &&& (31 : Int32)) &&& 31).toUInt32).toInt32)), .unset, .unset, .unset, .unset, .unset] [(.int (p2 &&& (3 : Int32)))])) _
    refine XS.istore X0.here hx rfl (hb hby at_14) rfl (l' := #[.val (.int p0), .val (.int p1), .val (.int p2), .val (.int p3), .val (.int (((p0 &&& (2147483647 : Int32)).toUInt32 >>> ((p1 &&& (31 : Int32)) &&& 31).toUInt32).toInt32)), .val (.int (p2 &&& (3 : Int32))), .unset, .unset, .unset, .unset]) rfl ?_
    show Steps p.tables e below (s₁.setTop (mkF m 16 #[.val (.int p0), .val (.int p1), .val (.int p2), .val (.int p3), .val (.int (((p0 &&& (2147483647 : Int32)).toUInt32 >>> ((p1 &&& (31 : Int32)) &&& 31).toUInt32).toInt32)), .val (.int (p2 &&& (3 : Int32))), .unset, .unset, .unset, .unset] [])) _
    refine XS.iloadN X0.here hx rfl (hb hby at_16) rfl ?_
    show Steps p.tables e below (s₁.setTop (mkF m 17 #[.val (.int p0), .val (.int p1), .val (.int p2), .val (.int p3), .val (.int (((p0 &&& (2147483647 : Int32)).toUInt32 >>> ((p1 &&& (31 : Int32)) &&& 31).toUInt32).toInt32)), .val (.int (p2 &&& (3 : Int32))), .unset, .unset, .unset, .unset] [(.int p3)])) _
    refine XS.i2b X0.here hx rfl (hb hby at_17) rfl ?_
    show Steps p.tables e below (s₁.setTop (mkF m 18 #[.val (.int p0), .val (.int p1), .val (.int p2), .val (.int p3), .val (.int (((p0 &&& (2147483647 : Int32)).toUInt32 >>> ((p1 &&& (31 : Int32)) &&& 31).toUInt32).toInt32)), .val (.int (p2 &&& (3 : Int32))), .unset, .unset, .unset, .unset] [(.int (p3.toInt8.toInt32))])) _
    refine XS.istore X0.here hx rfl (hb hby at_18) rfl (l' := #[.val (.int p0), .val (.int p1), .val (.int p2), .val (.int p3), .val (.int (((p0 &&& (2147483647 : Int32)).toUInt32 >>> ((p1 &&& (31 : Int32)) &&& 31).toUInt32).toInt32)), .val (.int (p2 &&& (3 : Int32))), .val (.int (p3.toInt8.toInt32)), .unset, .unset, .unset]) rfl ?_
    exact kt
  obtain ⟨val, hval⟩ : ∃ z : Int32, z = (((p0 &&& (2147483647 : Int32)).toUInt32 >>> ((p1 &&& (31 : Int32)) &&& 31).toUInt32).toInt32) := ⟨_, rfl⟩
  obtain ⟨at_, hat_⟩ : ∃ z : Int32, z = (p2 &&& (3 : Int32)) := ⟨_, rfl⟩
  obtain ⟨fill, hfill⟩ : ∃ z : Int32, z = (p3.toInt8.toInt32) := ⟨_, rfl⟩
  have G2 : ∀ t, Steps p.tables e below (s₁.setTop (mkF m 20 #[.val (.int p0), .val (.int p1), .val (.int p2), .val (.int p3), .val (.int val), .val (.int at_), .val (.int fill), .unset, .unset, .unset] [])) t → Steps p.tables e below (s₁.setTop (entryFrame m #[(.int p0), (.int p1), (.int p2), (.int p3)] maxLocals)) t := by
    intro t kt
    rw [hval, hat_, hfill] at kt
    exact G1 t kt
  have hat4 : 0 ≤ at_.toInt ∧ at_.toInt ≤ 3 := by have q := c_mask p2 3 2 (by decide) (by decide); rw [hat_, q]; omega
  have hval0 : 0 ≤ val.toInt := by rw [hval]; exact own_val _ _
  have hfn : nar .byte fill = fill := by rw [hfill]; exact own_nar _
  obtain ⟨T3, h3, k3, X3, e3, E3, A3, st3⟩ := newP X0 hx hZ (hw _ (List.mem_of_getElem? (i := 1) rfl)) e0 (g := (mkF m 22 #[.val (.int p0), .val (.int p1), .val (.int p2), .val (.int p3), .val (.int val), .val (.int at_), .val (.int fill), .unset, .unset, .unset] [(.int (10 : Int32))])) rfl (hb hby at_22) rfl (by decide) (cap := 10) (by decide) (by decide) (by decide) (by decide)
  obtain ⟨b3, g3⟩ : ∃ z, z = h0.size := ⟨_, rfl⟩
  rw [← g3] at A3 st3
  have g_b3 : n0 ≤ b3 := Nat.le_trans Z0 (Nat.le_of_eq g3.symm)
  have sz_b3 : h0.size ≤ b3 := Nat.le_trans kp0.1 (Nat.le_of_eq g3.symm)
  have z4 : n0 ≤ h3.size := Nat.le_trans Z0 E3.1
  have kp5 : Keep h0 h3 [] := kp0.ext E3
  have f6 : Arv Z h3 b3 k3 .byte (10 : Int32) [(.int (0 : Int32)), (.int (0 : Int32)), (.int (0 : Int32)), (.int (0 : Int32)), (.int (0 : Int32)), (.int (0 : Int32)), (.int (0 : Int32)), (.int (0 : Int32)), (.int (0 : Int32)), (.int (0 : Int32))] (.int (0 : Int32)) := (Arv.new A3 (by decide)).pad (pad_rep [] (.int (0 : Int32)) 10)
  obtain ⟨cl7, Ar7, q7, S7, M7, H7, G7⟩ := id f6
  have hin7 : ¬ ((0 : Int32) < 0 ∨ cl7.slots.size ≤ ((0 : Int32)).toNatClampNeg) := inb_of S7 ⟨by decide, by decide⟩
  obtain ⟨T8, h8, X8, e8, W8, st8⟩ := stB X3 hx hZ e3 Ar7 (j := (0 : Int32)) hin7 (g := (mkF m 31 #[.val (.int p0), .val (.int p1), .val (.int p2), .val (.int p3), .val (.int val), .val (.int at_), .val (.int fill), .val (.ref b3), .unset, .unset] [(.int fill), (.int (0 : Int32)), (.ref b3)])) rfl rfl (hb hby at_31)
  have z9 : n0 ≤ h8.size := Nat.le_trans z4 (Nat.le_of_eq W8.size.symm)
  have kp10 : Keep h0 h8 [] := kp5.wr W8 (Or.inr sz_b3)
  have f11 : Arv Z h8 b3 k3 .byte (10 : Int32) [(.int (nar .byte fill)), (.int (0 : Int32)), (.int (0 : Int32)), (.int (0 : Int32)), (.int (0 : Int32)), (.int (0 : Int32)), (.int (0 : Int32)), (.int (0 : Int32)), (.int (0 : Int32)), (.int (0 : Int32))] (.int (0 : Int32)) := Arv.set Ar7 q7 S7 M7 H7 G7 (fits_nar_byte _) W8 0 rfl (Nat.le_of_ble_eq_true rfl)
  have N8 := Fr.snoc X8 N0 g_b3
  obtain ⟨cl12, Ar12, q12, S12, M12, H12, G12⟩ := id f11
  have hin12 : ¬ ((1 : Int32) < 0 ∨ cl12.slots.size ≤ ((1 : Int32)).toNatClampNeg) := inb_of S12 ⟨by decide, by decide⟩
  obtain ⟨T13, h13, X13, e13, W13, st13⟩ := stB X8 hx hZ e8 Ar12 (j := (1 : Int32)) hin12 (g := (mkF m 37 #[.val (.int p0), .val (.int p1), .val (.int p2), .val (.int p3), .val (.int val), .val (.int at_), .val (.int fill), .val (.ref b3), .unset, .unset] [(.int fill), (.int (1 : Int32)), (.ref b3)])) rfl rfl (hb hby at_37)
  have z14 : n0 ≤ h13.size := Nat.le_trans z9 (Nat.le_of_eq W13.size.symm)
  have kp15 : Keep h0 h13 [] := kp10.wr W13 (Or.inr sz_b3)
  have f16 : Arv Z h13 b3 k3 .byte (10 : Int32) [(.int (nar .byte fill)), (.int (nar .byte fill)), (.int (0 : Int32)), (.int (0 : Int32)), (.int (0 : Int32)), (.int (0 : Int32)), (.int (0 : Int32)), (.int (0 : Int32)), (.int (0 : Int32)), (.int (0 : Int32))] (.int (0 : Int32)) := Arv.set Ar12 q12 S12 M12 H12 G12 (fits_nar_byte _) W13 1 rfl (Nat.le_of_ble_eq_true rfl)
  have N13 := Fr.snoc X13 N8 g_b3
  obtain ⟨cl17, Ar17, q17, S17, M17, H17, G17⟩ := id f16
  have hin17 : ¬ ((2 : Int32) < 0 ∨ cl17.slots.size ≤ ((2 : Int32)).toNatClampNeg) := inb_of S17 ⟨by decide, by decide⟩
  obtain ⟨T18, h18, X18, e18, W18, st18⟩ := stB X13 hx hZ e13 Ar17 (j := (2 : Int32)) hin17 (g := (mkF m 43 #[.val (.int p0), .val (.int p1), .val (.int p2), .val (.int p3), .val (.int val), .val (.int at_), .val (.int fill), .val (.ref b3), .unset, .unset] [(.int fill), (.int (2 : Int32)), (.ref b3)])) rfl rfl (hb hby at_43)
  have z19 : n0 ≤ h18.size := Nat.le_trans z14 (Nat.le_of_eq W18.size.symm)
  have kp20 : Keep h0 h18 [] := kp15.wr W18 (Or.inr sz_b3)
  have f21 : Arv Z h18 b3 k3 .byte (10 : Int32) [(.int (nar .byte fill)), (.int (nar .byte fill)), (.int (nar .byte fill)), (.int (0 : Int32)), (.int (0 : Int32)), (.int (0 : Int32)), (.int (0 : Int32)), (.int (0 : Int32)), (.int (0 : Int32)), (.int (0 : Int32))] (.int (0 : Int32)) := Arv.set Ar17 q17 S17 M17 H17 G17 (fits_nar_byte _) W18 2 rfl (Nat.le_of_ble_eq_true rfl)
  have N18 := Fr.snoc X18 N13 g_b3
  obtain ⟨cl22, Ar22, q22, S22, M22, H22, G22⟩ := id f21
  have hin22 : ¬ ((3 : Int32) < 0 ∨ cl22.slots.size ≤ ((3 : Int32)).toNatClampNeg) := inb_of S22 ⟨by decide, by decide⟩
  obtain ⟨T23, h23, X23, e23, W23, st23⟩ := stB X18 hx hZ e18 Ar22 (j := (3 : Int32)) hin22 (g := (mkF m 49 #[.val (.int p0), .val (.int p1), .val (.int p2), .val (.int p3), .val (.int val), .val (.int at_), .val (.int fill), .val (.ref b3), .unset, .unset] [(.int fill), (.int (3 : Int32)), (.ref b3)])) rfl rfl (hb hby at_49)
  have z24 : n0 ≤ h23.size := Nat.le_trans z19 (Nat.le_of_eq W23.size.symm)
  have kp25 : Keep h0 h23 [] := kp20.wr W23 (Or.inr sz_b3)
  have f26 : Arv Z h23 b3 k3 .byte (10 : Int32) [(.int (nar .byte fill)), (.int (nar .byte fill)), (.int (nar .byte fill)), (.int (nar .byte fill)), (.int (0 : Int32)), (.int (0 : Int32)), (.int (0 : Int32)), (.int (0 : Int32)), (.int (0 : Int32)), (.int (0 : Int32))] (.int (0 : Int32)) := Arv.set Ar22 q22 S22 M22 H22 G22 (fits_nar_byte _) W23 3 rfl (Nat.le_of_ble_eq_true rfl)
  have N23 := Fr.snoc X23 N18 g_b3
  obtain ⟨cl27, Ar27, q27, S27, M27, H27, G27⟩ := id f26
  have hin27 : ¬ ((4 : Int32) < 0 ∨ cl27.slots.size ≤ ((4 : Int32)).toNatClampNeg) := inb_of S27 ⟨by decide, by decide⟩
  obtain ⟨T28, h28, X28, e28, W28, st28⟩ := stB X23 hx hZ e23 Ar27 (j := (4 : Int32)) hin27 (g := (mkF m 55 #[.val (.int p0), .val (.int p1), .val (.int p2), .val (.int p3), .val (.int val), .val (.int at_), .val (.int fill), .val (.ref b3), .unset, .unset] [(.int fill), (.int (4 : Int32)), (.ref b3)])) rfl rfl (hb hby at_55)
  have z29 : n0 ≤ h28.size := Nat.le_trans z24 (Nat.le_of_eq W28.size.symm)
  have kp30 : Keep h0 h28 [] := kp25.wr W28 (Or.inr sz_b3)
  have f31 : Arv Z h28 b3 k3 .byte (10 : Int32) [(.int (nar .byte fill)), (.int (nar .byte fill)), (.int (nar .byte fill)), (.int (nar .byte fill)), (.int (nar .byte fill)), (.int (0 : Int32)), (.int (0 : Int32)), (.int (0 : Int32)), (.int (0 : Int32)), (.int (0 : Int32))] (.int (0 : Int32)) := Arv.set Ar27 q27 S27 M27 H27 G27 (fits_nar_byte _) W28 4 rfl (Nat.le_of_ble_eq_true rfl)
  have N28 := Fr.snoc X28 N23 g_b3
  obtain ⟨cl32, Ar32, q32, S32, M32, H32, G32⟩ := id f31
  have hin32 : ¬ ((5 : Int32) < 0 ∨ cl32.slots.size ≤ ((5 : Int32)).toNatClampNeg) := inb_of S32 ⟨by decide, by decide⟩
  obtain ⟨T33, h33, X33, e33, W33, st33⟩ := stB X28 hx hZ e28 Ar32 (j := (5 : Int32)) hin32 (g := (mkF m 61 #[.val (.int p0), .val (.int p1), .val (.int p2), .val (.int p3), .val (.int val), .val (.int at_), .val (.int fill), .val (.ref b3), .unset, .unset] [(.int fill), (.int (5 : Int32)), (.ref b3)])) rfl rfl (hb hby at_61)
  have z34 : n0 ≤ h33.size := Nat.le_trans z29 (Nat.le_of_eq W33.size.symm)
  have kp35 : Keep h0 h33 [] := kp30.wr W33 (Or.inr sz_b3)
  have f36 : Arv Z h33 b3 k3 .byte (10 : Int32) [(.int (nar .byte fill)), (.int (nar .byte fill)), (.int (nar .byte fill)), (.int (nar .byte fill)), (.int (nar .byte fill)), (.int (nar .byte fill)), (.int (0 : Int32)), (.int (0 : Int32)), (.int (0 : Int32)), (.int (0 : Int32))] (.int (0 : Int32)) := Arv.set Ar32 q32 S32 M32 H32 G32 (fits_nar_byte _) W33 5 rfl (Nat.le_of_ble_eq_true rfl)
  have N33 := Fr.snoc X33 N28 g_b3
  obtain ⟨cl37, Ar37, q37, S37, M37, H37, G37⟩ := id f36
  have hin37 : ¬ ((6 : Int32) < 0 ∨ cl37.slots.size ≤ ((6 : Int32)).toNatClampNeg) := inb_of S37 ⟨by decide, by decide⟩
  obtain ⟨T38, h38, X38, e38, W38, st38⟩ := stB X33 hx hZ e33 Ar37 (j := (6 : Int32)) hin37 (g := (mkF m 68 #[.val (.int p0), .val (.int p1), .val (.int p2), .val (.int p3), .val (.int val), .val (.int at_), .val (.int fill), .val (.ref b3), .unset, .unset] [(.int fill), (.int (6 : Int32)), (.ref b3)])) rfl rfl (hb hby at_68)
  have z39 : n0 ≤ h38.size := Nat.le_trans z34 (Nat.le_of_eq W38.size.symm)
  have kp40 : Keep h0 h38 [] := kp35.wr W38 (Or.inr sz_b3)
  have f41 : Arv Z h38 b3 k3 .byte (10 : Int32) [(.int (nar .byte fill)), (.int (nar .byte fill)), (.int (nar .byte fill)), (.int (nar .byte fill)), (.int (nar .byte fill)), (.int (nar .byte fill)), (.int (nar .byte fill)), (.int (0 : Int32)), (.int (0 : Int32)), (.int (0 : Int32))] (.int (0 : Int32)) := Arv.set Ar37 q37 S37 M37 H37 G37 (fits_nar_byte _) W38 6 rfl (Nat.le_of_ble_eq_true rfl)
  have N38 := Fr.snoc X38 N33 g_b3
  obtain ⟨cl42, Ar42, q42, S42, M42, H42, G42⟩ := id f41
  have hin42 : ¬ ((7 : Int32) < 0 ∨ cl42.slots.size ≤ ((7 : Int32)).toNatClampNeg) := inb_of S42 ⟨by decide, by decide⟩
  obtain ⟨T43, h43, X43, e43, W43, st43⟩ := stB X38 hx hZ e38 Ar42 (j := (7 : Int32)) hin42 (g := (mkF m 75 #[.val (.int p0), .val (.int p1), .val (.int p2), .val (.int p3), .val (.int val), .val (.int at_), .val (.int fill), .val (.ref b3), .unset, .unset] [(.int fill), (.int (7 : Int32)), (.ref b3)])) rfl rfl (hb hby at_75)
  have z44 : n0 ≤ h43.size := Nat.le_trans z39 (Nat.le_of_eq W43.size.symm)
  have kp45 : Keep h0 h43 [] := kp40.wr W43 (Or.inr sz_b3)
  have f46 : Arv Z h43 b3 k3 .byte (10 : Int32) [(.int (nar .byte fill)), (.int (nar .byte fill)), (.int (nar .byte fill)), (.int (nar .byte fill)), (.int (nar .byte fill)), (.int (nar .byte fill)), (.int (nar .byte fill)), (.int (nar .byte fill)), (.int (0 : Int32)), (.int (0 : Int32))] (.int (0 : Int32)) := Arv.set Ar42 q42 S42 M42 H42 G42 (fits_nar_byte _) W43 7 rfl (Nat.le_of_ble_eq_true rfl)
  have N43 := Fr.snoc X43 N38 g_b3
  obtain ⟨cl47, Ar47, q47, S47, M47, H47, G47⟩ := id f46
  have hin47 : ¬ ((8 : Int32) < 0 ∨ cl47.slots.size ≤ ((8 : Int32)).toNatClampNeg) := inb_of S47 ⟨by decide, by decide⟩
  obtain ⟨T48, h48, X48, e48, W48, st48⟩ := stB X43 hx hZ e43 Ar47 (j := (8 : Int32)) hin47 (g := (mkF m 82 #[.val (.int p0), .val (.int p1), .val (.int p2), .val (.int p3), .val (.int val), .val (.int at_), .val (.int fill), .val (.ref b3), .unset, .unset] [(.int fill), (.int (8 : Int32)), (.ref b3)])) rfl rfl (hb hby at_82)
  have z49 : n0 ≤ h48.size := Nat.le_trans z44 (Nat.le_of_eq W48.size.symm)
  have kp50 : Keep h0 h48 [] := kp45.wr W48 (Or.inr sz_b3)
  have f51 : Arv Z h48 b3 k3 .byte (10 : Int32) [(.int (nar .byte fill)), (.int (nar .byte fill)), (.int (nar .byte fill)), (.int (nar .byte fill)), (.int (nar .byte fill)), (.int (nar .byte fill)), (.int (nar .byte fill)), (.int (nar .byte fill)), (.int (nar .byte fill)), (.int (0 : Int32))] (.int (0 : Int32)) := Arv.set Ar47 q47 S47 M47 H47 G47 (fits_nar_byte _) W48 8 rfl (Nat.le_of_ble_eq_true rfl)
  have N48 := Fr.snoc X48 N43 g_b3
  obtain ⟨cl52, Ar52, q52, S52, M52, H52, G52⟩ := id f51
  have hin52 : ¬ ((9 : Int32) < 0 ∨ cl52.slots.size ≤ ((9 : Int32)).toNatClampNeg) := inb_of S52 ⟨by decide, by decide⟩
  obtain ⟨T53, h53, X53, e53, W53, st53⟩ := stB X48 hx hZ e48 Ar52 (j := (9 : Int32)) hin52 (g := (mkF m 89 #[.val (.int p0), .val (.int p1), .val (.int p2), .val (.int p3), .val (.int val), .val (.int at_), .val (.int fill), .val (.ref b3), .unset, .unset] [(.int fill), (.int (9 : Int32)), (.ref b3)])) rfl rfl (hb hby at_89)
  have z54 : n0 ≤ h53.size := Nat.le_trans z49 (Nat.le_of_eq W53.size.symm)
  have kp55 : Keep h0 h53 [] := kp50.wr W53 (Or.inr sz_b3)
  have f56 : Arv Z h53 b3 k3 .byte (10 : Int32) [(.int (nar .byte fill)), (.int (nar .byte fill)), (.int (nar .byte fill)), (.int (nar .byte fill)), (.int (nar .byte fill)), (.int (nar .byte fill)), (.int (nar .byte fill)), (.int (nar .byte fill)), (.int (nar .byte fill)), (.int (nar .byte fill))] (.int (0 : Int32)) := Arv.set Ar52 q52 S52 M52 H52 G52 (fits_nar_byte _) W53 9 rfl (Nat.le_of_ble_eq_true rfl)
  have N53 := Fr.snoc X53 N48 g_b3
  have G57 : ∀ t, Steps p.tables e below (T53.setTop (mkF m 90 #[.val (.int p0), .val (.int p1), .val (.int p2), .val (.int p3), .val (.int val), .val (.int at_), .val (.int fill), .val (.ref b3), .unset, .unset] [])) t → Steps p.tables e below (s₁.setTop (entryFrame m #[(.int p0), (.int p1), (.int p2), (.int p3)] maxLocals)) t := by
    intro t kt
    refine G2 _ ?_
    show Steps p.tables e below (s₁.setTop (mkF m 20 #[.val (.int p0), .val (.int p1), .val (.int p2), .val (.int p3), .val (.int val), .val (.int at_), .val (.int fill), .unset, .unset, .unset] [])) _
    refine XS.bipush X0.here hx rfl (hb hby at_20) ?_
    show Steps p.tables e below (s₁.setTop (mkF m 22 #[.val (.int p0), .val (.int p1), .val (.int p2), .val (.int p3), .val (.int val), .val (.int at_), .val (.int fill), .unset, .unset, .unset] [(.int (10 : Int32))])) _
    refine st3 _ ?_
    show Steps p.tables e below (T3.setTop (mkF m 24 #[.val (.int p0), .val (.int p1), .val (.int p2), .val (.int p3), .val (.int val), .val (.int at_), .val (.int fill), .unset, .unset, .unset] [(.ref b3)])) _
    refine XS.astore X3.here hx rfl (hb hby at_24) rfl rfl (l' := #[.val (.int p0), .val (.int p1), .val (.int p2), .val (.int p3), .val (.int val), .val (.int at_), .val (.int fill), .val (.ref b3), .unset, .unset]) rfl ?_
    show Steps p.tables e below (T3.setTop (mkF m 26 #[.val (.int p0), .val (.int p1), .val (.int p2), .val (.int p3), .val (.int val), .val (.int at_), .val (.int fill), .val (.ref b3), .unset, .unset] [])) _
    refine XS.aload X3.here hx rfl (hb hby at_26) rfl rfl ?_
    show Steps p.tables e below (T3.setTop (mkF m 28 #[.val (.int p0), .val (.int p1), .val (.int p2), .val (.int p3), .val (.int val), .val (.int at_), .val (.int fill), .val (.ref b3), .unset, .unset] [(.ref b3)])) _
    refine XS.iconst X3.here hx rfl (hb hby at_28) ?_
    show Steps p.tables e below (T3.setTop (mkF m 29 #[.val (.int p0), .val (.int p1), .val (.int p2), .val (.int p3), .val (.int val), .val (.int at_), .val (.int fill), .val (.ref b3), .unset, .unset] [(.int (0 : Int32)), (.ref b3)])) _
    refine XS.iload X3.here hx rfl (hb hby at_29) rfl ?_
    show Steps p.tables e below (T3.setTop (mkF m 31 #[.val (.int p0), .val (.int p1), .val (.int p2), .val (.int p3), .val (.int val), .val (.int at_), .val (.int fill), .val (.ref b3), .unset, .unset] [(.int fill), (.int (0 : Int32)), (.ref b3)])) _
    refine st8 _ ?_
    show Steps p.tables e below (T8.setTop (mkF m 32 #[.val (.int p0), .val (.int p1), .val (.int p2), .val (.int p3), .val (.int val), .val (.int at_), .val (.int fill), .val (.ref b3), .unset, .unset] [])) _
    refine XS.aload X8.here hx rfl (hb hby at_32) rfl rfl ?_
    show Steps p.tables e below (T8.setTop (mkF m 34 #[.val (.int p0), .val (.int p1), .val (.int p2), .val (.int p3), .val (.int val), .val (.int at_), .val (.int fill), .val (.ref b3), .unset, .unset] [(.ref b3)])) _
    refine XS.iconst X8.here hx rfl (hb hby at_34) ?_
    show Steps p.tables e below (T8.setTop (mkF m 35 #[.val (.int p0), .val (.int p1), .val (.int p2), .val (.int p3), .val (.int val), .val (.int at_), .val (.int fill), .val (.ref b3), .unset, .unset] [(.int (1 : Int32)), (.ref b3)])) _
    refine XS.iload X8.here hx rfl (hb hby at_35) rfl ?_
    show Steps p.tables e below (T8.setTop (mkF m 37 #[.val (.int p0), .val (.int p1), .val (.int p2), .val (.int p3), .val (.int val), .val (.int at_), .val (.int fill), .val (.ref b3), .unset, .unset] [(.int fill), (.int (1 : Int32)), (.ref b3)])) _
    refine st13 _ ?_
    show Steps p.tables e below (T13.setTop (mkF m 38 #[.val (.int p0), .val (.int p1), .val (.int p2), .val (.int p3), .val (.int val), .val (.int at_), .val (.int fill), .val (.ref b3), .unset, .unset] [])) _
    refine XS.aload X13.here hx rfl (hb hby at_38) rfl rfl ?_
    show Steps p.tables e below (T13.setTop (mkF m 40 #[.val (.int p0), .val (.int p1), .val (.int p2), .val (.int p3), .val (.int val), .val (.int at_), .val (.int fill), .val (.ref b3), .unset, .unset] [(.ref b3)])) _
    refine XS.iconst X13.here hx rfl (hb hby at_40) ?_
    show Steps p.tables e below (T13.setTop (mkF m 41 #[.val (.int p0), .val (.int p1), .val (.int p2), .val (.int p3), .val (.int val), .val (.int at_), .val (.int fill), .val (.ref b3), .unset, .unset] [(.int (2 : Int32)), (.ref b3)])) _
    refine XS.iload X13.here hx rfl (hb hby at_41) rfl ?_
    show Steps p.tables e below (T13.setTop (mkF m 43 #[.val (.int p0), .val (.int p1), .val (.int p2), .val (.int p3), .val (.int val), .val (.int at_), .val (.int fill), .val (.ref b3), .unset, .unset] [(.int fill), (.int (2 : Int32)), (.ref b3)])) _
    refine st18 _ ?_
    show Steps p.tables e below (T18.setTop (mkF m 44 #[.val (.int p0), .val (.int p1), .val (.int p2), .val (.int p3), .val (.int val), .val (.int at_), .val (.int fill), .val (.ref b3), .unset, .unset] [])) _
    refine XS.aload X18.here hx rfl (hb hby at_44) rfl rfl ?_
    show Steps p.tables e below (T18.setTop (mkF m 46 #[.val (.int p0), .val (.int p1), .val (.int p2), .val (.int p3), .val (.int val), .val (.int at_), .val (.int fill), .val (.ref b3), .unset, .unset] [(.ref b3)])) _
    refine XS.iconst X18.here hx rfl (hb hby at_46) ?_
    show Steps p.tables e below (T18.setTop (mkF m 47 #[.val (.int p0), .val (.int p1), .val (.int p2), .val (.int p3), .val (.int val), .val (.int at_), .val (.int fill), .val (.ref b3), .unset, .unset] [(.int (3 : Int32)), (.ref b3)])) _
    refine XS.iload X18.here hx rfl (hb hby at_47) rfl ?_
    show Steps p.tables e below (T18.setTop (mkF m 49 #[.val (.int p0), .val (.int p1), .val (.int p2), .val (.int p3), .val (.int val), .val (.int at_), .val (.int fill), .val (.ref b3), .unset, .unset] [(.int fill), (.int (3 : Int32)), (.ref b3)])) _
    refine st23 _ ?_
    show Steps p.tables e below (T23.setTop (mkF m 50 #[.val (.int p0), .val (.int p1), .val (.int p2), .val (.int p3), .val (.int val), .val (.int at_), .val (.int fill), .val (.ref b3), .unset, .unset] [])) _
    refine XS.aload X23.here hx rfl (hb hby at_50) rfl rfl ?_
    show Steps p.tables e below (T23.setTop (mkF m 52 #[.val (.int p0), .val (.int p1), .val (.int p2), .val (.int p3), .val (.int val), .val (.int at_), .val (.int fill), .val (.ref b3), .unset, .unset] [(.ref b3)])) _
    refine XS.iconst X23.here hx rfl (hb hby at_52) ?_
    show Steps p.tables e below (T23.setTop (mkF m 53 #[.val (.int p0), .val (.int p1), .val (.int p2), .val (.int p3), .val (.int val), .val (.int at_), .val (.int fill), .val (.ref b3), .unset, .unset] [(.int (4 : Int32)), (.ref b3)])) _
    refine XS.iload X23.here hx rfl (hb hby at_53) rfl ?_
    show Steps p.tables e below (T23.setTop (mkF m 55 #[.val (.int p0), .val (.int p1), .val (.int p2), .val (.int p3), .val (.int val), .val (.int at_), .val (.int fill), .val (.ref b3), .unset, .unset] [(.int fill), (.int (4 : Int32)), (.ref b3)])) _
    refine st28 _ ?_
    show Steps p.tables e below (T28.setTop (mkF m 56 #[.val (.int p0), .val (.int p1), .val (.int p2), .val (.int p3), .val (.int val), .val (.int at_), .val (.int fill), .val (.ref b3), .unset, .unset] [])) _
    refine XS.aload X28.here hx rfl (hb hby at_56) rfl rfl ?_
    show Steps p.tables e below (T28.setTop (mkF m 58 #[.val (.int p0), .val (.int p1), .val (.int p2), .val (.int p3), .val (.int val), .val (.int at_), .val (.int fill), .val (.ref b3), .unset, .unset] [(.ref b3)])) _
    refine XS.iconst X28.here hx rfl (hb hby at_58) ?_
    show Steps p.tables e below (T28.setTop (mkF m 59 #[.val (.int p0), .val (.int p1), .val (.int p2), .val (.int p3), .val (.int val), .val (.int at_), .val (.int fill), .val (.ref b3), .unset, .unset] [(.int (5 : Int32)), (.ref b3)])) _
    refine XS.iload X28.here hx rfl (hb hby at_59) rfl ?_
    show Steps p.tables e below (T28.setTop (mkF m 61 #[.val (.int p0), .val (.int p1), .val (.int p2), .val (.int p3), .val (.int val), .val (.int at_), .val (.int fill), .val (.ref b3), .unset, .unset] [(.int fill), (.int (5 : Int32)), (.ref b3)])) _
    refine st33 _ ?_
    show Steps p.tables e below (T33.setTop (mkF m 62 #[.val (.int p0), .val (.int p1), .val (.int p2), .val (.int p3), .val (.int val), .val (.int at_), .val (.int fill), .val (.ref b3), .unset, .unset] [])) _
    refine XS.aload X33.here hx rfl (hb hby at_62) rfl rfl ?_
    show Steps p.tables e below (T33.setTop (mkF m 64 #[.val (.int p0), .val (.int p1), .val (.int p2), .val (.int p3), .val (.int val), .val (.int at_), .val (.int fill), .val (.ref b3), .unset, .unset] [(.ref b3)])) _
    refine XS.bipush X33.here hx rfl (hb hby at_64) ?_
    show Steps p.tables e below (T33.setTop (mkF m 66 #[.val (.int p0), .val (.int p1), .val (.int p2), .val (.int p3), .val (.int val), .val (.int at_), .val (.int fill), .val (.ref b3), .unset, .unset] [(.int (6 : Int32)), (.ref b3)])) _
    refine XS.iload X33.here hx rfl (hb hby at_66) rfl ?_
    show Steps p.tables e below (T33.setTop (mkF m 68 #[.val (.int p0), .val (.int p1), .val (.int p2), .val (.int p3), .val (.int val), .val (.int at_), .val (.int fill), .val (.ref b3), .unset, .unset] [(.int fill), (.int (6 : Int32)), (.ref b3)])) _
    refine st38 _ ?_
    show Steps p.tables e below (T38.setTop (mkF m 69 #[.val (.int p0), .val (.int p1), .val (.int p2), .val (.int p3), .val (.int val), .val (.int at_), .val (.int fill), .val (.ref b3), .unset, .unset] [])) _
    refine XS.aload X38.here hx rfl (hb hby at_69) rfl rfl ?_
    show Steps p.tables e below (T38.setTop (mkF m 71 #[.val (.int p0), .val (.int p1), .val (.int p2), .val (.int p3), .val (.int val), .val (.int at_), .val (.int fill), .val (.ref b3), .unset, .unset] [(.ref b3)])) _
    refine XS.bipush X38.here hx rfl (hb hby at_71) ?_
    show Steps p.tables e below (T38.setTop (mkF m 73 #[.val (.int p0), .val (.int p1), .val (.int p2), .val (.int p3), .val (.int val), .val (.int at_), .val (.int fill), .val (.ref b3), .unset, .unset] [(.int (7 : Int32)), (.ref b3)])) _
    refine XS.iload X38.here hx rfl (hb hby at_73) rfl ?_
    show Steps p.tables e below (T38.setTop (mkF m 75 #[.val (.int p0), .val (.int p1), .val (.int p2), .val (.int p3), .val (.int val), .val (.int at_), .val (.int fill), .val (.ref b3), .unset, .unset] [(.int fill), (.int (7 : Int32)), (.ref b3)])) _
    refine st43 _ ?_
    show Steps p.tables e below (T43.setTop (mkF m 76 #[.val (.int p0), .val (.int p1), .val (.int p2), .val (.int p3), .val (.int val), .val (.int at_), .val (.int fill), .val (.ref b3), .unset, .unset] [])) _
    refine XS.aload X43.here hx rfl (hb hby at_76) rfl rfl ?_
    show Steps p.tables e below (T43.setTop (mkF m 78 #[.val (.int p0), .val (.int p1), .val (.int p2), .val (.int p3), .val (.int val), .val (.int at_), .val (.int fill), .val (.ref b3), .unset, .unset] [(.ref b3)])) _
    refine XS.bipush X43.here hx rfl (hb hby at_78) ?_
    show Steps p.tables e below (T43.setTop (mkF m 80 #[.val (.int p0), .val (.int p1), .val (.int p2), .val (.int p3), .val (.int val), .val (.int at_), .val (.int fill), .val (.ref b3), .unset, .unset] [(.int (8 : Int32)), (.ref b3)])) _
    refine XS.iload X43.here hx rfl (hb hby at_80) rfl ?_
    show Steps p.tables e below (T43.setTop (mkF m 82 #[.val (.int p0), .val (.int p1), .val (.int p2), .val (.int p3), .val (.int val), .val (.int at_), .val (.int fill), .val (.ref b3), .unset, .unset] [(.int fill), (.int (8 : Int32)), (.ref b3)])) _
    refine st48 _ ?_
    show Steps p.tables e below (T48.setTop (mkF m 83 #[.val (.int p0), .val (.int p1), .val (.int p2), .val (.int p3), .val (.int val), .val (.int at_), .val (.int fill), .val (.ref b3), .unset, .unset] [])) _
    refine XS.aload X48.here hx rfl (hb hby at_83) rfl rfl ?_
    show Steps p.tables e below (T48.setTop (mkF m 85 #[.val (.int p0), .val (.int p1), .val (.int p2), .val (.int p3), .val (.int val), .val (.int at_), .val (.int fill), .val (.ref b3), .unset, .unset] [(.ref b3)])) _
    refine XS.bipush X48.here hx rfl (hb hby at_85) ?_
    show Steps p.tables e below (T48.setTop (mkF m 87 #[.val (.int p0), .val (.int p1), .val (.int p2), .val (.int p3), .val (.int val), .val (.int at_), .val (.int fill), .val (.ref b3), .unset, .unset] [(.int (9 : Int32)), (.ref b3)])) _
    refine XS.iload X48.here hx rfl (hb hby at_87) rfl ?_
    show Steps p.tables e below (T48.setTop (mkF m 89 #[.val (.int p0), .val (.int p1), .val (.int p2), .val (.int p3), .val (.int val), .val (.int at_), .val (.int fill), .val (.ref b3), .unset, .unset] [(.int fill), (.int (9 : Int32)), (.ref b3)])) _
    refine st53 _ ?_
    exact kt
  obtain ⟨j58, hj58⟩ : ∃ z : Int32, z = (if val < (128 : Int32) then (1 : Int32) else (if val < (16384 : Int32) then (2 : Int32) else (if val < (2097152 : Int32) then (3 : Int32) else (if val < (268435456 : Int32) then (4 : Int32) else (5 : Int32))))) := ⟨_, rfl⟩
  have G59 : ∀ t, Steps p.tables e below (T53.setTop (mkF m 147 #[.val (.int p0), .val (.int p1), .val (.int p2), .val (.int p3), .val (.int val), .val (.int at_), .val (.int fill), .val (.ref b3), .val (.int j58), .unset] [])) t → Steps p.tables e below (s₁.setTop (entryFrame m #[(.int p0), (.int p1), (.int p2), (.int p3)] maxLocals)) t := by
    intro t kt
    have G60 : ∀ t, Steps p.tables e below (T53.setTop (mkF m 95 #[.val (.int p0), .val (.int p1), .val (.int p2), .val (.int p3), .val (.int val), .val (.int at_), .val (.int fill), .val (.ref b3), .unset, .unset] [(.int (128 : Int32)), (.int val)])) t → Steps p.tables e below (s₁.setTop (entryFrame m #[(.int p0), (.int p1), (.int p2), (.int p3)] maxLocals)) t := by
      intro t kt
      refine G57 _ ?_
      show Steps p.tables e below (T53.setTop (mkF m 90 #[.val (.int p0), .val (.int p1), .val (.int p2), .val (.int p3), .val (.int val), .val (.int at_), .val (.int fill), .val (.ref b3), .unset, .unset] [])) _
      refine XS.iload X53.here hx rfl (hb hby at_90) rfl ?_
      show Steps p.tables e below (T53.setTop (mkF m 92 #[.val (.int p0), .val (.int p1), .val (.int p2), .val (.int p3), .val (.int val), .val (.int at_), .val (.int fill), .val (.ref b3), .unset, .unset] [(.int val)])) _
      refine XS.sipush X53.here hx rfl (hb hby at_92) ?_
      exact kt
    by_cases hc95_61 : val < (128 : Int32)
    · skip
      rw [show j58 = (1 : Int32) from by rw [hj58, if_pos hc95_61]] at kt
      refine G60 _ ?_
      show Steps p.tables e below (T53.setTop (mkF m 95 #[.val (.int p0), .val (.int p1), .val (.int p2), .val (.int p3), .val (.int val), .val (.int at_), .val (.int fill), .val (.ref b3), .unset, .unset] [(.int (128 : Int32)), (.int val)])) _
      refine XS.icmpNo X53.here hx rfl (hb hby at_95) rfl (tlt hc95_61).2.1 ?_
      show Steps p.tables e below (T53.setTop (mkF m 98 #[.val (.int p0), .val (.int p1), .val (.int p2), .val (.int p3), .val (.int val), .val (.int at_), .val (.int fill), .val (.ref b3), .unset, .unset] [])) _
      refine XS.iconst X53.here hx rfl (hb hby at_98) ?_
      show Steps p.tables e below (T53.setTop (mkF m 99 #[.val (.int p0), .val (.int p1), .val (.int p2), .val (.int p3), .val (.int val), .val (.int at_), .val (.int fill), .val (.ref b3), .unset, .unset] [(.int (1 : Int32))])) _
      refine XS.istore X53.here hx rfl (hb hby at_99) rfl (l' := #[.val (.int p0), .val (.int p1), .val (.int p2), .val (.int p3), .val (.int val), .val (.int at_), .val (.int fill), .val (.ref b3), .val (.int (1 : Int32)), .unset]) rfl ?_
      show Steps p.tables e below (T53.setTop (mkF m 101 #[.val (.int p0), .val (.int p1), .val (.int p2), .val (.int p3), .val (.int val), .val (.int at_), .val (.int fill), .val (.ref b3), .val (.int (1 : Int32)), .unset] [])) _
      refine XS.goto X53.here hx rfl (pc0 := 101) (pc' := 147) rfl (hb hby at_101) (by decide) (by decide) ?_
      exact kt
    · skip
      have G62 : ∀ t, Steps p.tables e below (T53.setTop (mkF m 109 #[.val (.int p0), .val (.int p1), .val (.int p2), .val (.int p3), .val (.int val), .val (.int at_), .val (.int fill), .val (.ref b3), .unset, .unset] [(.int (16384 : Int32)), (.int val)])) t → Steps p.tables e below (s₁.setTop (entryFrame m #[(.int p0), (.int p1), (.int p2), (.int p3)] maxLocals)) t := by
        intro t kt
        refine G60 _ ?_
        show Steps p.tables e below (T53.setTop (mkF m 95 #[.val (.int p0), .val (.int p1), .val (.int p2), .val (.int p3), .val (.int val), .val (.int at_), .val (.int fill), .val (.ref b3), .unset, .unset] [(.int (128 : Int32)), (.int val)])) _
        refine XS.icmpYes X53.here hx rfl (pc0 := 95) (pc' := 104) rfl (hb hby at_95) rfl (flt hc95_61).2.1 (by decide) (by decide) ?_
        show Steps p.tables e below (T53.setTop (mkF m 104 #[.val (.int p0), .val (.int p1), .val (.int p2), .val (.int p3), .val (.int val), .val (.int at_), .val (.int fill), .val (.ref b3), .unset, .unset] [])) _
        refine XS.iload X53.here hx rfl (hb hby at_104) rfl ?_
        show Steps p.tables e below (T53.setTop (mkF m 106 #[.val (.int p0), .val (.int p1), .val (.int p2), .val (.int p3), .val (.int val), .val (.int at_), .val (.int fill), .val (.ref b3), .unset, .unset] [(.int val)])) _
        refine XS.sipush X53.here hx rfl (hb hby at_106) ?_
        exact kt
      by_cases hc109_63 : val < (16384 : Int32)
      · skip
        rw [show j58 = (2 : Int32) from by rw [hj58, if_neg hc95_61, if_pos hc109_63]] at kt
        refine G62 _ ?_
        show Steps p.tables e below (T53.setTop (mkF m 109 #[.val (.int p0), .val (.int p1), .val (.int p2), .val (.int p3), .val (.int val), .val (.int at_), .val (.int fill), .val (.ref b3), .unset, .unset] [(.int (16384 : Int32)), (.int val)])) _
        refine XS.icmpNo X53.here hx rfl (hb hby at_109) rfl (tlt hc109_63).2.1 ?_
        show Steps p.tables e below (T53.setTop (mkF m 112 #[.val (.int p0), .val (.int p1), .val (.int p2), .val (.int p3), .val (.int val), .val (.int at_), .val (.int fill), .val (.ref b3), .unset, .unset] [])) _
        refine XS.iconst X53.here hx rfl (hb hby at_112) ?_
        show Steps p.tables e below (T53.setTop (mkF m 113 #[.val (.int p0), .val (.int p1), .val (.int p2), .val (.int p3), .val (.int val), .val (.int at_), .val (.int fill), .val (.ref b3), .unset, .unset] [(.int (2 : Int32))])) _
        refine XS.istore X53.here hx rfl (hb hby at_113) rfl (l' := #[.val (.int p0), .val (.int p1), .val (.int p2), .val (.int p3), .val (.int val), .val (.int at_), .val (.int fill), .val (.ref b3), .val (.int (2 : Int32)), .unset]) rfl ?_
        show Steps p.tables e below (T53.setTop (mkF m 115 #[.val (.int p0), .val (.int p1), .val (.int p2), .val (.int p3), .val (.int val), .val (.int at_), .val (.int fill), .val (.ref b3), .val (.int (2 : Int32)), .unset] [])) _
        refine XS.goto X53.here hx rfl (pc0 := 115) (pc' := 147) rfl (hb hby at_115) (by decide) (by decide) ?_
        exact kt
      · skip
        have G64 : ∀ t, Steps p.tables e below (T53.setTop (mkF m 122 #[.val (.int p0), .val (.int p1), .val (.int p2), .val (.int p3), .val (.int val), .val (.int at_), .val (.int fill), .val (.ref b3), .unset, .unset] [(.int (2097152 : Int32)), (.int val)])) t → Steps p.tables e below (s₁.setTop (entryFrame m #[(.int p0), (.int p1), (.int p2), (.int p3)] maxLocals)) t := by
          intro t kt
          refine G62 _ ?_
          show Steps p.tables e below (T53.setTop (mkF m 109 #[.val (.int p0), .val (.int p1), .val (.int p2), .val (.int p3), .val (.int val), .val (.int at_), .val (.int fill), .val (.ref b3), .unset, .unset] [(.int (16384 : Int32)), (.int val)])) _
          refine XS.icmpYes X53.here hx rfl (pc0 := 109) (pc' := 118) rfl (hb hby at_109) rfl (flt hc109_63).2.1 (by decide) (by decide) ?_
          show Steps p.tables e below (T53.setTop (mkF m 118 #[.val (.int p0), .val (.int p1), .val (.int p2), .val (.int p3), .val (.int val), .val (.int at_), .val (.int fill), .val (.ref b3), .unset, .unset] [])) _
          refine XS.iload X53.here hx rfl (hb hby at_118) rfl ?_
          show Steps p.tables e below (T53.setTop (mkF m 120 #[.val (.int p0), .val (.int p1), .val (.int p2), .val (.int p3), .val (.int val), .val (.int at_), .val (.int fill), .val (.ref b3), .unset, .unset] [(.int val)])) _
          refine X53.ldcInt hx hown (mvT hZ (hw _ (List.mem_of_getElem? (i := 10) rfl))) (g := (mkF m 120 #[.val (.int p0), .val (.int p1), .val (.int p2), .val (.int p3), .val (.int val), .val (.int at_), .val (.int fill), .val (.ref b3), .unset, .unset] [(.int val)])) rfl (hb hby at_120) _ ?_
          exact kt
        by_cases hc122_65 : val < (2097152 : Int32)
        · skip
          rw [show j58 = (3 : Int32) from by rw [hj58, if_neg hc95_61, if_neg hc109_63, if_pos hc122_65]] at kt
          refine G64 _ ?_
          show Steps p.tables e below (T53.setTop (mkF m 122 #[.val (.int p0), .val (.int p1), .val (.int p2), .val (.int p3), .val (.int val), .val (.int at_), .val (.int fill), .val (.ref b3), .unset, .unset] [(.int (2097152 : Int32)), (.int val)])) _
          refine XS.icmpNo X53.here hx rfl (hb hby at_122) rfl (tlt hc122_65).2.1 ?_
          show Steps p.tables e below (T53.setTop (mkF m 125 #[.val (.int p0), .val (.int p1), .val (.int p2), .val (.int p3), .val (.int val), .val (.int at_), .val (.int fill), .val (.ref b3), .unset, .unset] [])) _
          refine XS.iconst X53.here hx rfl (hb hby at_125) ?_
          show Steps p.tables e below (T53.setTop (mkF m 126 #[.val (.int p0), .val (.int p1), .val (.int p2), .val (.int p3), .val (.int val), .val (.int at_), .val (.int fill), .val (.ref b3), .unset, .unset] [(.int (3 : Int32))])) _
          refine XS.istore X53.here hx rfl (hb hby at_126) rfl (l' := #[.val (.int p0), .val (.int p1), .val (.int p2), .val (.int p3), .val (.int val), .val (.int at_), .val (.int fill), .val (.ref b3), .val (.int (3 : Int32)), .unset]) rfl ?_
          show Steps p.tables e below (T53.setTop (mkF m 128 #[.val (.int p0), .val (.int p1), .val (.int p2), .val (.int p3), .val (.int val), .val (.int at_), .val (.int fill), .val (.ref b3), .val (.int (3 : Int32)), .unset] [])) _
          refine XS.goto X53.here hx rfl (pc0 := 128) (pc' := 147) rfl (hb hby at_128) (by decide) (by decide) ?_
          exact kt
        · skip
          have G66 : ∀ t, Steps p.tables e below (T53.setTop (mkF m 135 #[.val (.int p0), .val (.int p1), .val (.int p2), .val (.int p3), .val (.int val), .val (.int at_), .val (.int fill), .val (.ref b3), .unset, .unset] [(.int (268435456 : Int32)), (.int val)])) t → Steps p.tables e below (s₁.setTop (entryFrame m #[(.int p0), (.int p1), (.int p2), (.int p3)] maxLocals)) t := by
            intro t kt
            refine G64 _ ?_
            show Steps p.tables e below (T53.setTop (mkF m 122 #[.val (.int p0), .val (.int p1), .val (.int p2), .val (.int p3), .val (.int val), .val (.int at_), .val (.int fill), .val (.ref b3), .unset, .unset] [(.int (2097152 : Int32)), (.int val)])) _
            refine XS.icmpYes X53.here hx rfl (pc0 := 122) (pc' := 131) rfl (hb hby at_122) rfl (flt hc122_65).2.1 (by decide) (by decide) ?_
            show Steps p.tables e below (T53.setTop (mkF m 131 #[.val (.int p0), .val (.int p1), .val (.int p2), .val (.int p3), .val (.int val), .val (.int at_), .val (.int fill), .val (.ref b3), .unset, .unset] [])) _
            refine XS.iload X53.here hx rfl (hb hby at_131) rfl ?_
            show Steps p.tables e below (T53.setTop (mkF m 133 #[.val (.int p0), .val (.int p1), .val (.int p2), .val (.int p3), .val (.int val), .val (.int at_), .val (.int fill), .val (.ref b3), .unset, .unset] [(.int val)])) _
            refine X53.ldcInt hx hown (mvT hZ (hw _ (List.mem_of_getElem? (i := 11) rfl))) (g := (mkF m 133 #[.val (.int p0), .val (.int p1), .val (.int p2), .val (.int p3), .val (.int val), .val (.int at_), .val (.int fill), .val (.ref b3), .unset, .unset] [(.int val)])) rfl (hb hby at_133) _ ?_
            exact kt
          by_cases hc135_67 : val < (268435456 : Int32)
          · skip
            rw [show j58 = (4 : Int32) from by rw [hj58, if_neg hc95_61, if_neg hc109_63, if_neg hc122_65, if_pos hc135_67]] at kt
            refine G66 _ ?_
            show Steps p.tables e below (T53.setTop (mkF m 135 #[.val (.int p0), .val (.int p1), .val (.int p2), .val (.int p3), .val (.int val), .val (.int at_), .val (.int fill), .val (.ref b3), .unset, .unset] [(.int (268435456 : Int32)), (.int val)])) _
            refine XS.icmpNo X53.here hx rfl (hb hby at_135) rfl (tlt hc135_67).2.1 ?_
            show Steps p.tables e below (T53.setTop (mkF m 138 #[.val (.int p0), .val (.int p1), .val (.int p2), .val (.int p3), .val (.int val), .val (.int at_), .val (.int fill), .val (.ref b3), .unset, .unset] [])) _
            refine XS.iconst X53.here hx rfl (hb hby at_138) ?_
            show Steps p.tables e below (T53.setTop (mkF m 139 #[.val (.int p0), .val (.int p1), .val (.int p2), .val (.int p3), .val (.int val), .val (.int at_), .val (.int fill), .val (.ref b3), .unset, .unset] [(.int (4 : Int32))])) _
            refine XS.istore X53.here hx rfl (hb hby at_139) rfl (l' := #[.val (.int p0), .val (.int p1), .val (.int p2), .val (.int p3), .val (.int val), .val (.int at_), .val (.int fill), .val (.ref b3), .val (.int (4 : Int32)), .unset]) rfl ?_
            show Steps p.tables e below (T53.setTop (mkF m 141 #[.val (.int p0), .val (.int p1), .val (.int p2), .val (.int p3), .val (.int val), .val (.int at_), .val (.int fill), .val (.ref b3), .val (.int (4 : Int32)), .unset] [])) _
            refine XS.goto X53.here hx rfl (pc0 := 141) (pc' := 147) rfl (hb hby at_141) (by decide) (by decide) ?_
            exact kt
          · skip
            rw [show j58 = (5 : Int32) from by rw [hj58, if_neg hc95_61, if_neg hc109_63, if_neg hc122_65, if_neg hc135_67]] at kt
            refine G66 _ ?_
            show Steps p.tables e below (T53.setTop (mkF m 135 #[.val (.int p0), .val (.int p1), .val (.int p2), .val (.int p3), .val (.int val), .val (.int at_), .val (.int fill), .val (.ref b3), .unset, .unset] [(.int (268435456 : Int32)), (.int val)])) _
            refine XS.icmpYes X53.here hx rfl (pc0 := 135) (pc' := 144) rfl (hb hby at_135) rfl (flt hc135_67).2.1 (by decide) (by decide) ?_
            show Steps p.tables e below (T53.setTop (mkF m 144 #[.val (.int p0), .val (.int p1), .val (.int p2), .val (.int p3), .val (.int val), .val (.int at_), .val (.int fill), .val (.ref b3), .unset, .unset] [])) _
            refine XS.iconst X53.here hx rfl (hb hby at_144) ?_
            show Steps p.tables e below (T53.setTop (mkF m 145 #[.val (.int p0), .val (.int p1), .val (.int p2), .val (.int p3), .val (.int val), .val (.int at_), .val (.int fill), .val (.ref b3), .unset, .unset] [(.int (5 : Int32))])) _
            refine XS.istore X53.here hx rfl (hb hby at_145) rfl (l' := #[.val (.int p0), .val (.int p1), .val (.int p2), .val (.int p3), .val (.int val), .val (.int at_), .val (.int fill), .val (.ref b3), .val (.int (5 : Int32)), .unset]) rfl ?_
            exact kt
  obtain ⟨_, _, ⟨T68, L68, k68, n68⟩, -, X68, ⟨Lc68, hQ68, l68, y68, z68⟩, st68⟩ := Jvm.LawKit.callS X53 hx (y := (⟨"com/example/degree/degree/index/Varint", "put", "([BII)I"⟩ : MethodName)) hown (mvT hZ (hw _ (List.mem_of_getElem? (i := 2) rfl))) (mvT hZ (hw _ (List.mem_of_getElem? (i := 3) rfl))) (mvT hZ (hw _ (List.mem_of_getElem? (i := 4) rfl))) (mvT hZ (hw _ (List.mem_of_getElem? (i := 5) rfl))) (by decide) (backOf (W := 0) (rm1 l Z a0 hw [] b3 at_ val k3 [(.int (nar .byte fill)), (.int (nar .byte fill)), (.int (nar .byte fill)), (.int (nar .byte fill)), (.int (nar .byte fill)), (.int (nar .byte fill)), (.int (nar .byte fill)), (.int (nar .byte fill)), (.int (nar .byte fill)), (.int (nar .byte fill))]  h53 n0 z54 f56 rfl hat4 g_b3) hZ (hw _ (List.mem_of_getElem? (i := 5) rfl)) (hw _ (List.mem_of_getElem? (i := 4) rfl)) (by decide) (by decide)) (g := (mkF m 153 #[.val (.int p0), .val (.int p1), .val (.int p2), .val (.int p3), .val (.int val), .val (.int at_), .val (.int fill), .val (.ref b3), .val (.int j58), .unset] [(.int val), (.int at_), (.ref b3)])) rfl (by rw [hml]; rfl) (argsL := [(.ref b3), (.int at_), (.int val)]) (rest := []) (lenOf pd_0 rfl) rfl (by show 2 * 0 + _ ≤ _; exact Nat.le_of_eq rfl) (hb hby at_153) (fun _ _ => ⟨rfl, e53, (by decide : 1 + 0 ≤ _), (by decide : 10 + 0 ≤ _)⟩)
  dsimp only [Pt.U, Pt.locs, Pt.cells, Pt.slots] at X68 l68 y68 z68 st68 hQ68
  subst l68 y68 z68
  obtain ⟨rfl, N68q, K68, V68⟩ := hQ68
  have N68 := Fr.app N53 N68q
  have z69 : n0 ≤ T68.heap.size := Nat.le_trans z54 K68.1
  have kp70 : Keep h0 T68.heap [] := kp55.trans K68 (allS (Or.inr sz_b3) all0)
  have G71 : ∀ t, Steps p.tables e below (T68.setTop (mkF m 165 #[.val (.int p0), .val (.int p1), .val (.int p2), .val (.int p3), .val (.int val), .val (.int at_), .val (.int fill), .val (.ref b3), .val (.int j58), .val (.int (f1 at_ val))] [(.int (at_ + j58)), (.int (f1 at_ val))])) t → Steps p.tables e below (s₁.setTop (entryFrame m #[(.int p0), (.int p1), (.int p2), (.int p3)] maxLocals)) t := by
    intro t kt
    refine G59 _ ?_
    show Steps p.tables e below (T53.setTop (mkF m 147 #[.val (.int p0), .val (.int p1), .val (.int p2), .val (.int p3), .val (.int val), .val (.int at_), .val (.int fill), .val (.ref b3), .val (.int j58), .unset] [])) _
    refine XS.aload X53.here hx rfl (hb hby at_147) rfl rfl ?_
    show Steps p.tables e below (T53.setTop (mkF m 149 #[.val (.int p0), .val (.int p1), .val (.int p2), .val (.int p3), .val (.int val), .val (.int at_), .val (.int fill), .val (.ref b3), .val (.int j58), .unset] [(.ref b3)])) _
    refine XS.iload X53.here hx rfl (hb hby at_149) rfl ?_
    show Steps p.tables e below (T53.setTop (mkF m 151 #[.val (.int p0), .val (.int p1), .val (.int p2), .val (.int p3), .val (.int val), .val (.int at_), .val (.int fill), .val (.ref b3), .val (.int j58), .unset] [(.int at_), (.ref b3)])) _
    refine XS.iload X53.here hx rfl (hb hby at_151) rfl ?_
    show Steps p.tables e below (T53.setTop (mkF m 153 #[.val (.int p0), .val (.int p1), .val (.int p2), .val (.int p3), .val (.int val), .val (.int at_), .val (.int fill), .val (.ref b3), .val (.int j58), .unset] [(.int val), (.int at_), (.ref b3)])) _
    refine st68 _ ?_
    show Steps p.tables e below (T68.setTop (mkF m 156 #[.val (.int p0), .val (.int p1), .val (.int p2), .val (.int p3), .val (.int val), .val (.int at_), .val (.int fill), .val (.ref b3), .val (.int j58), .unset] [(.int (f1 at_ val))])) _
    refine XS.istore X68.here hx rfl (hb hby at_156) rfl (l' := #[.val (.int p0), .val (.int p1), .val (.int p2), .val (.int p3), .val (.int val), .val (.int at_), .val (.int fill), .val (.ref b3), .val (.int j58), .val (.int (f1 at_ val))]) rfl ?_
    show Steps p.tables e below (T68.setTop (mkF m 158 #[.val (.int p0), .val (.int p1), .val (.int p2), .val (.int p3), .val (.int val), .val (.int at_), .val (.int fill), .val (.ref b3), .val (.int j58), .val (.int (f1 at_ val))] [])) _
    refine XS.iload X68.here hx rfl (hb hby at_158) rfl ?_
    show Steps p.tables e below (T68.setTop (mkF m 160 #[.val (.int p0), .val (.int p1), .val (.int p2), .val (.int p3), .val (.int val), .val (.int at_), .val (.int fill), .val (.ref b3), .val (.int j58), .val (.int (f1 at_ val))] [(.int (f1 at_ val))])) _
    refine XS.iload X68.here hx rfl (hb hby at_160) rfl ?_
    show Steps p.tables e below (T68.setTop (mkF m 162 #[.val (.int p0), .val (.int p1), .val (.int p2), .val (.int p3), .val (.int val), .val (.int at_), .val (.int fill), .val (.ref b3), .val (.int j58), .val (.int (f1 at_ val))] [(.int at_), (.int (f1 at_ val))])) _
    refine XS.iload X68.here hx rfl (hb hby at_162) rfl ?_
    show Steps p.tables e below (T68.setTop (mkF m 164 #[.val (.int p0), .val (.int p1), .val (.int p2), .val (.int p3), .val (.int val), .val (.int at_), .val (.int fill), .val (.ref b3), .val (.int j58), .val (.int (f1 at_ val))] [(.int j58), (.int at_), (.int (f1 at_ val))])) _
    refine XS.iadd X68.here hx rfl (hb hby at_164) rfl ?_
    exact kt
  have hc165_72 : (f1 at_ val) = (at_ + j58) := own_end _ _ _ hval0 hj58
  obtain ⟨w73, hg73, ho73⟩ := own_ok0 at_ val fill j58 hat4 hval0 hfn hj58
  obtain ⟨_, _, ⟨T73, L73, k73, n73⟩, -, X73, ⟨Lc73, hQ73, l73, y73, z73⟩, st73⟩ := Jvm.LawKit.callS X68 hx (y := (⟨"com/example/degree/degree/index/VarintPutPinLaw", "ok", "([BIIIIB)Z"⟩ : MethodName)) hown (mvT hZ (hw _ (List.mem_of_getElem? (i := 6) rfl))) (mvT hZ (hw _ (List.mem_of_getElem? (i := 7) rfl))) (mvT hZ (hw _ (List.mem_of_getElem? (i := 8) rfl))) (mvT hZ (hw _ (List.mem_of_getElem? (i := 9) rfl))) (by decide) (backOf (W := 0) (rm2 l Z a0 hw [] b3 (0 : Int32) at_ j58 val fill k3 (fput [(.int (nar .byte fill)), (.int (nar .byte fill)), (.int (nar .byte fill)), (.int (nar .byte fill)), (.int (nar .byte fill)), (.int (nar .byte fill)), (.int (nar .byte fill)), (.int (nar .byte fill)), (.int (nar .byte fill)), (.int (nar .byte fill))] at_ val) w73 T68.heap n0 z69 V68 (by decide) hg73) hZ (hw _ (List.mem_of_getElem? (i := 9) rfl)) (hw _ (List.mem_of_getElem? (i := 8) rfl)) (by decide) (by decide)) (g := (mkF m 181 #[.val (.int p0), .val (.int p1), .val (.int p2), .val (.int p3), .val (.int val), .val (.int at_), .val (.int fill), .val (.ref b3), .val (.int j58), .val (.int (f1 at_ val))] [(.int fill), (.int val), (.int j58), (.int at_), (.int (0 : Int32)), (.ref b3)])) rfl (by rw [hml]; rfl) (argsL := [(.ref b3), (.int (0 : Int32)), (.int at_), (.int j58), (.int val), (.int fill)]) (rest := []) (lenOf pd_1 rfl) rfl (by show 2 * 0 + _ ≤ _; exact Nat.le_of_eq rfl) (hb hby at_181) (fun _ _ => ⟨rfl, rfl, (by decide : 1 + 0 ≤ _), (by decide : 10 + 0 ≤ _)⟩)
  dsimp only [Pt.U, Pt.locs, Pt.cells, Pt.slots] at X73 l73 y73 z73 st73 hQ73
  subst l73 y73 z73
  obtain ⟨rfl, N73q, eh73⟩ := hQ73
  have N73 := Fr.app N68 N73q
  have G74 : ∀ t, Steps p.tables e below (T73.setTop (mkF m 184 #[.val (.int p0), .val (.int p1), .val (.int p2), .val (.int p3), .val (.int val), .val (.int at_), .val (.int fill), .val (.ref b3), .val (.int j58), .val (.int (f1 at_ val))] [(.int (fok (0 : Int32) at_ j58 val fill w73))])) t → Steps p.tables e below (s₁.setTop (entryFrame m #[(.int p0), (.int p1), (.int p2), (.int p3)] maxLocals)) t := by
    intro t kt
    refine G71 _ ?_
    show Steps p.tables e below (T68.setTop (mkF m 165 #[.val (.int p0), .val (.int p1), .val (.int p2), .val (.int p3), .val (.int val), .val (.int at_), .val (.int fill), .val (.ref b3), .val (.int j58), .val (.int (f1 at_ val))] [(.int (at_ + j58)), (.int (f1 at_ val))])) _
    refine XS.icmpYes X68.here hx rfl (pc0 := 165) (pc' := 170) rfl (hb hby at_165) rfl (teq hc165_72).1 (by decide) (by decide) ?_
    show Steps p.tables e below (T68.setTop (mkF m 170 #[.val (.int p0), .val (.int p1), .val (.int p2), .val (.int p3), .val (.int val), .val (.int at_), .val (.int fill), .val (.ref b3), .val (.int j58), .val (.int (f1 at_ val))] [])) _
    refine XS.aload X68.here hx rfl (hb hby at_170) rfl rfl ?_
    show Steps p.tables e below (T68.setTop (mkF m 172 #[.val (.int p0), .val (.int p1), .val (.int p2), .val (.int p3), .val (.int val), .val (.int at_), .val (.int fill), .val (.ref b3), .val (.int j58), .val (.int (f1 at_ val))] [(.ref b3)])) _
    refine XS.iconst X68.here hx rfl (hb hby at_172) ?_
    show Steps p.tables e below (T68.setTop (mkF m 173 #[.val (.int p0), .val (.int p1), .val (.int p2), .val (.int p3), .val (.int val), .val (.int at_), .val (.int fill), .val (.ref b3), .val (.int j58), .val (.int (f1 at_ val))] [(.int (0 : Int32)), (.ref b3)])) _
    refine XS.iload X68.here hx rfl (hb hby at_173) rfl ?_
    show Steps p.tables e below (T68.setTop (mkF m 175 #[.val (.int p0), .val (.int p1), .val (.int p2), .val (.int p3), .val (.int val), .val (.int at_), .val (.int fill), .val (.ref b3), .val (.int j58), .val (.int (f1 at_ val))] [(.int at_), (.int (0 : Int32)), (.ref b3)])) _
    refine XS.iload X68.here hx rfl (hb hby at_175) rfl ?_
    show Steps p.tables e below (T68.setTop (mkF m 177 #[.val (.int p0), .val (.int p1), .val (.int p2), .val (.int p3), .val (.int val), .val (.int at_), .val (.int fill), .val (.ref b3), .val (.int j58), .val (.int (f1 at_ val))] [(.int j58), (.int at_), (.int (0 : Int32)), (.ref b3)])) _
    refine XS.iload X68.here hx rfl (hb hby at_177) rfl ?_
    show Steps p.tables e below (T68.setTop (mkF m 179 #[.val (.int p0), .val (.int p1), .val (.int p2), .val (.int p3), .val (.int val), .val (.int at_), .val (.int fill), .val (.ref b3), .val (.int j58), .val (.int (f1 at_ val))] [(.int val), (.int j58), (.int at_), (.int (0 : Int32)), (.ref b3)])) _
    refine XS.iload X68.here hx rfl (hb hby at_179) rfl ?_
    show Steps p.tables e below (T68.setTop (mkF m 181 #[.val (.int p0), .val (.int p1), .val (.int p2), .val (.int p3), .val (.int val), .val (.int at_), .val (.int fill), .val (.ref b3), .val (.int j58), .val (.int (f1 at_ val))] [(.int fill), (.int val), (.int j58), (.int at_), (.int (0 : Int32)), (.ref b3)])) _
    refine st73 _ ?_
    exact kt
  have hc184_75 : ¬ ((fok (0 : Int32) at_ j58 val fill w73) = (0 : Int32)) := by rw [ho73]; decide
  obtain ⟨w76, hg76, ho76⟩ := own_ok1 at_ val fill j58 hat4 hval0 hfn hj58
  obtain ⟨_, _, ⟨T76, L76, k76, n76⟩, -, X76, ⟨Lc76, hQ76, l76, y76, z76⟩, st76⟩ := Jvm.LawKit.callS X73 hx (y := (⟨"com/example/degree/degree/index/VarintPutPinLaw", "ok", "([BIIIIB)Z"⟩ : MethodName)) hown (mvT hZ (hw _ (List.mem_of_getElem? (i := 6) rfl))) (mvT hZ (hw _ (List.mem_of_getElem? (i := 7) rfl))) (mvT hZ (hw _ (List.mem_of_getElem? (i := 8) rfl))) (mvT hZ (hw _ (List.mem_of_getElem? (i := 9) rfl))) (by decide) (backOf (W := 0) (rm2 l Z a0 hw [] b3 (1 : Int32) at_ j58 val fill k3 (fput [(.int (nar .byte fill)), (.int (nar .byte fill)), (.int (nar .byte fill)), (.int (nar .byte fill)), (.int (nar .byte fill)), (.int (nar .byte fill)), (.int (nar .byte fill)), (.int (nar .byte fill)), (.int (nar .byte fill)), (.int (nar .byte fill))] at_ val) w76 T68.heap n0 z69 V68 (by decide) hg76) hZ (hw _ (List.mem_of_getElem? (i := 9) rfl)) (hw _ (List.mem_of_getElem? (i := 8) rfl)) (by decide) (by decide)) (g := (mkF m 198 #[.val (.int p0), .val (.int p1), .val (.int p2), .val (.int p3), .val (.int val), .val (.int at_), .val (.int fill), .val (.ref b3), .val (.int j58), .val (.int (f1 at_ val))] [(.int fill), (.int val), (.int j58), (.int at_), (.int (1 : Int32)), (.ref b3)])) rfl (by rw [hml]; rfl) (argsL := [(.ref b3), (.int (1 : Int32)), (.int at_), (.int j58), (.int val), (.int fill)]) (rest := []) (lenOf pd_1 rfl) rfl (by show 2 * 0 + _ ≤ _; exact Nat.le_of_eq rfl) (hb hby at_198) (fun _ _ => ⟨rfl, eh73, (by decide : 1 + 0 ≤ _), (by decide : 10 + 0 ≤ _)⟩)
  dsimp only [Pt.U, Pt.locs, Pt.cells, Pt.slots] at X76 l76 y76 z76 st76 hQ76
  subst l76 y76 z76
  obtain ⟨rfl, N76q, eh76⟩ := hQ76
  have N76 := Fr.app N73 N76q
  have G77 : ∀ t, Steps p.tables e below (T76.setTop (mkF m 201 #[.val (.int p0), .val (.int p1), .val (.int p2), .val (.int p3), .val (.int val), .val (.int at_), .val (.int fill), .val (.ref b3), .val (.int j58), .val (.int (f1 at_ val))] [(.int (fok (1 : Int32) at_ j58 val fill w76))])) t → Steps p.tables e below (s₁.setTop (entryFrame m #[(.int p0), (.int p1), (.int p2), (.int p3)] maxLocals)) t := by
    intro t kt
    refine G74 _ ?_
    show Steps p.tables e below (T73.setTop (mkF m 184 #[.val (.int p0), .val (.int p1), .val (.int p2), .val (.int p3), .val (.int val), .val (.int at_), .val (.int fill), .val (.ref b3), .val (.int j58), .val (.int (f1 at_ val))] [(.int (fok (0 : Int32) at_ j58 val fill w73))])) _
    refine XS.ifNo X73.here hx rfl (hb hby at_184) rfl ((if0 _ _).trans (feq hc184_75).1) ?_
    show Steps p.tables e below (T73.setTop (mkF m 187 #[.val (.int p0), .val (.int p1), .val (.int p2), .val (.int p3), .val (.int val), .val (.int at_), .val (.int fill), .val (.ref b3), .val (.int j58), .val (.int (f1 at_ val))] [])) _
    refine XS.aload X73.here hx rfl (hb hby at_187) rfl rfl ?_
    show Steps p.tables e below (T73.setTop (mkF m 189 #[.val (.int p0), .val (.int p1), .val (.int p2), .val (.int p3), .val (.int val), .val (.int at_), .val (.int fill), .val (.ref b3), .val (.int j58), .val (.int (f1 at_ val))] [(.ref b3)])) _
    refine XS.iconst X73.here hx rfl (hb hby at_189) ?_
    show Steps p.tables e below (T73.setTop (mkF m 190 #[.val (.int p0), .val (.int p1), .val (.int p2), .val (.int p3), .val (.int val), .val (.int at_), .val (.int fill), .val (.ref b3), .val (.int j58), .val (.int (f1 at_ val))] [(.int (1 : Int32)), (.ref b3)])) _
    refine XS.iload X73.here hx rfl (hb hby at_190) rfl ?_
    show Steps p.tables e below (T73.setTop (mkF m 192 #[.val (.int p0), .val (.int p1), .val (.int p2), .val (.int p3), .val (.int val), .val (.int at_), .val (.int fill), .val (.ref b3), .val (.int j58), .val (.int (f1 at_ val))] [(.int at_), (.int (1 : Int32)), (.ref b3)])) _
    refine XS.iload X73.here hx rfl (hb hby at_192) rfl ?_
    show Steps p.tables e below (T73.setTop (mkF m 194 #[.val (.int p0), .val (.int p1), .val (.int p2), .val (.int p3), .val (.int val), .val (.int at_), .val (.int fill), .val (.ref b3), .val (.int j58), .val (.int (f1 at_ val))] [(.int j58), (.int at_), (.int (1 : Int32)), (.ref b3)])) _
    refine XS.iload X73.here hx rfl (hb hby at_194) rfl ?_
    show Steps p.tables e below (T73.setTop (mkF m 196 #[.val (.int p0), .val (.int p1), .val (.int p2), .val (.int p3), .val (.int val), .val (.int at_), .val (.int fill), .val (.ref b3), .val (.int j58), .val (.int (f1 at_ val))] [(.int val), (.int j58), (.int at_), (.int (1 : Int32)), (.ref b3)])) _
    refine XS.iload X73.here hx rfl (hb hby at_196) rfl ?_
    show Steps p.tables e below (T73.setTop (mkF m 198 #[.val (.int p0), .val (.int p1), .val (.int p2), .val (.int p3), .val (.int val), .val (.int at_), .val (.int fill), .val (.ref b3), .val (.int j58), .val (.int (f1 at_ val))] [(.int fill), (.int val), (.int j58), (.int at_), (.int (1 : Int32)), (.ref b3)])) _
    refine st76 _ ?_
    exact kt
  have hc201_78 : ¬ ((fok (1 : Int32) at_ j58 val fill w76) = (0 : Int32)) := by rw [ho76]; decide
  obtain ⟨w79, hg79, ho79⟩ := own_ok2 at_ val fill j58 hat4 hval0 hfn hj58
  obtain ⟨_, _, ⟨T79, L79, k79, n79⟩, -, X79, ⟨Lc79, hQ79, l79, y79, z79⟩, st79⟩ := Jvm.LawKit.callS X76 hx (y := (⟨"com/example/degree/degree/index/VarintPutPinLaw", "ok", "([BIIIIB)Z"⟩ : MethodName)) hown (mvT hZ (hw _ (List.mem_of_getElem? (i := 6) rfl))) (mvT hZ (hw _ (List.mem_of_getElem? (i := 7) rfl))) (mvT hZ (hw _ (List.mem_of_getElem? (i := 8) rfl))) (mvT hZ (hw _ (List.mem_of_getElem? (i := 9) rfl))) (by decide) (backOf (W := 0) (rm2 l Z a0 hw [] b3 (2 : Int32) at_ j58 val fill k3 (fput [(.int (nar .byte fill)), (.int (nar .byte fill)), (.int (nar .byte fill)), (.int (nar .byte fill)), (.int (nar .byte fill)), (.int (nar .byte fill)), (.int (nar .byte fill)), (.int (nar .byte fill)), (.int (nar .byte fill)), (.int (nar .byte fill))] at_ val) w79 T68.heap n0 z69 V68 (by decide) hg79) hZ (hw _ (List.mem_of_getElem? (i := 9) rfl)) (hw _ (List.mem_of_getElem? (i := 8) rfl)) (by decide) (by decide)) (g := (mkF m 215 #[.val (.int p0), .val (.int p1), .val (.int p2), .val (.int p3), .val (.int val), .val (.int at_), .val (.int fill), .val (.ref b3), .val (.int j58), .val (.int (f1 at_ val))] [(.int fill), (.int val), (.int j58), (.int at_), (.int (2 : Int32)), (.ref b3)])) rfl (by rw [hml]; rfl) (argsL := [(.ref b3), (.int (2 : Int32)), (.int at_), (.int j58), (.int val), (.int fill)]) (rest := []) (lenOf pd_1 rfl) rfl (by show 2 * 0 + _ ≤ _; exact Nat.le_of_eq rfl) (hb hby at_215) (fun _ _ => ⟨rfl, eh76, (by decide : 1 + 0 ≤ _), (by decide : 10 + 0 ≤ _)⟩)
  dsimp only [Pt.U, Pt.locs, Pt.cells, Pt.slots] at X79 l79 y79 z79 st79 hQ79
  subst l79 y79 z79
  obtain ⟨rfl, N79q, eh79⟩ := hQ79
  have N79 := Fr.app N76 N79q
  have G80 : ∀ t, Steps p.tables e below (T79.setTop (mkF m 218 #[.val (.int p0), .val (.int p1), .val (.int p2), .val (.int p3), .val (.int val), .val (.int at_), .val (.int fill), .val (.ref b3), .val (.int j58), .val (.int (f1 at_ val))] [(.int (fok (2 : Int32) at_ j58 val fill w79))])) t → Steps p.tables e below (s₁.setTop (entryFrame m #[(.int p0), (.int p1), (.int p2), (.int p3)] maxLocals)) t := by
    intro t kt
    refine G77 _ ?_
    show Steps p.tables e below (T76.setTop (mkF m 201 #[.val (.int p0), .val (.int p1), .val (.int p2), .val (.int p3), .val (.int val), .val (.int at_), .val (.int fill), .val (.ref b3), .val (.int j58), .val (.int (f1 at_ val))] [(.int (fok (1 : Int32) at_ j58 val fill w76))])) _
    refine XS.ifNo X76.here hx rfl (hb hby at_201) rfl ((if0 _ _).trans (feq hc201_78).1) ?_
    show Steps p.tables e below (T76.setTop (mkF m 204 #[.val (.int p0), .val (.int p1), .val (.int p2), .val (.int p3), .val (.int val), .val (.int at_), .val (.int fill), .val (.ref b3), .val (.int j58), .val (.int (f1 at_ val))] [])) _
    refine XS.aload X76.here hx rfl (hb hby at_204) rfl rfl ?_
    show Steps p.tables e below (T76.setTop (mkF m 206 #[.val (.int p0), .val (.int p1), .val (.int p2), .val (.int p3), .val (.int val), .val (.int at_), .val (.int fill), .val (.ref b3), .val (.int j58), .val (.int (f1 at_ val))] [(.ref b3)])) _
    refine XS.iconst X76.here hx rfl (hb hby at_206) ?_
    show Steps p.tables e below (T76.setTop (mkF m 207 #[.val (.int p0), .val (.int p1), .val (.int p2), .val (.int p3), .val (.int val), .val (.int at_), .val (.int fill), .val (.ref b3), .val (.int j58), .val (.int (f1 at_ val))] [(.int (2 : Int32)), (.ref b3)])) _
    refine XS.iload X76.here hx rfl (hb hby at_207) rfl ?_
    show Steps p.tables e below (T76.setTop (mkF m 209 #[.val (.int p0), .val (.int p1), .val (.int p2), .val (.int p3), .val (.int val), .val (.int at_), .val (.int fill), .val (.ref b3), .val (.int j58), .val (.int (f1 at_ val))] [(.int at_), (.int (2 : Int32)), (.ref b3)])) _
    refine XS.iload X76.here hx rfl (hb hby at_209) rfl ?_
    show Steps p.tables e below (T76.setTop (mkF m 211 #[.val (.int p0), .val (.int p1), .val (.int p2), .val (.int p3), .val (.int val), .val (.int at_), .val (.int fill), .val (.ref b3), .val (.int j58), .val (.int (f1 at_ val))] [(.int j58), (.int at_), (.int (2 : Int32)), (.ref b3)])) _
    refine XS.iload X76.here hx rfl (hb hby at_211) rfl ?_
    show Steps p.tables e below (T76.setTop (mkF m 213 #[.val (.int p0), .val (.int p1), .val (.int p2), .val (.int p3), .val (.int val), .val (.int at_), .val (.int fill), .val (.ref b3), .val (.int j58), .val (.int (f1 at_ val))] [(.int val), (.int j58), (.int at_), (.int (2 : Int32)), (.ref b3)])) _
    refine XS.iload X76.here hx rfl (hb hby at_213) rfl ?_
    show Steps p.tables e below (T76.setTop (mkF m 215 #[.val (.int p0), .val (.int p1), .val (.int p2), .val (.int p3), .val (.int val), .val (.int at_), .val (.int fill), .val (.ref b3), .val (.int j58), .val (.int (f1 at_ val))] [(.int fill), (.int val), (.int j58), (.int at_), (.int (2 : Int32)), (.ref b3)])) _
    refine st79 _ ?_
    exact kt
  have hc218_81 : ¬ ((fok (2 : Int32) at_ j58 val fill w79) = (0 : Int32)) := by rw [ho79]; decide
  obtain ⟨w82, hg82, ho82⟩ := own_ok3 at_ val fill j58 hat4 hval0 hfn hj58
  obtain ⟨_, _, ⟨T82, L82, k82, n82⟩, -, X82, ⟨Lc82, hQ82, l82, y82, z82⟩, st82⟩ := Jvm.LawKit.callS X79 hx (y := (⟨"com/example/degree/degree/index/VarintPutPinLaw", "ok", "([BIIIIB)Z"⟩ : MethodName)) hown (mvT hZ (hw _ (List.mem_of_getElem? (i := 6) rfl))) (mvT hZ (hw _ (List.mem_of_getElem? (i := 7) rfl))) (mvT hZ (hw _ (List.mem_of_getElem? (i := 8) rfl))) (mvT hZ (hw _ (List.mem_of_getElem? (i := 9) rfl))) (by decide) (backOf (W := 0) (rm2 l Z a0 hw [] b3 (3 : Int32) at_ j58 val fill k3 (fput [(.int (nar .byte fill)), (.int (nar .byte fill)), (.int (nar .byte fill)), (.int (nar .byte fill)), (.int (nar .byte fill)), (.int (nar .byte fill)), (.int (nar .byte fill)), (.int (nar .byte fill)), (.int (nar .byte fill)), (.int (nar .byte fill))] at_ val) w82 T68.heap n0 z69 V68 (by decide) hg82) hZ (hw _ (List.mem_of_getElem? (i := 9) rfl)) (hw _ (List.mem_of_getElem? (i := 8) rfl)) (by decide) (by decide)) (g := (mkF m 232 #[.val (.int p0), .val (.int p1), .val (.int p2), .val (.int p3), .val (.int val), .val (.int at_), .val (.int fill), .val (.ref b3), .val (.int j58), .val (.int (f1 at_ val))] [(.int fill), (.int val), (.int j58), (.int at_), (.int (3 : Int32)), (.ref b3)])) rfl (by rw [hml]; rfl) (argsL := [(.ref b3), (.int (3 : Int32)), (.int at_), (.int j58), (.int val), (.int fill)]) (rest := []) (lenOf pd_1 rfl) rfl (by show 2 * 0 + _ ≤ _; exact Nat.le_of_eq rfl) (hb hby at_232) (fun _ _ => ⟨rfl, eh79, (by decide : 1 + 0 ≤ _), (by decide : 10 + 0 ≤ _)⟩)
  dsimp only [Pt.U, Pt.locs, Pt.cells, Pt.slots] at X82 l82 y82 z82 st82 hQ82
  subst l82 y82 z82
  obtain ⟨rfl, N82q, eh82⟩ := hQ82
  have N82 := Fr.app N79 N82q
  have G83 : ∀ t, Steps p.tables e below (T82.setTop (mkF m 235 #[.val (.int p0), .val (.int p1), .val (.int p2), .val (.int p3), .val (.int val), .val (.int at_), .val (.int fill), .val (.ref b3), .val (.int j58), .val (.int (f1 at_ val))] [(.int (fok (3 : Int32) at_ j58 val fill w82))])) t → Steps p.tables e below (s₁.setTop (entryFrame m #[(.int p0), (.int p1), (.int p2), (.int p3)] maxLocals)) t := by
    intro t kt
    refine G80 _ ?_
    show Steps p.tables e below (T79.setTop (mkF m 218 #[.val (.int p0), .val (.int p1), .val (.int p2), .val (.int p3), .val (.int val), .val (.int at_), .val (.int fill), .val (.ref b3), .val (.int j58), .val (.int (f1 at_ val))] [(.int (fok (2 : Int32) at_ j58 val fill w79))])) _
    refine XS.ifNo X79.here hx rfl (hb hby at_218) rfl ((if0 _ _).trans (feq hc218_81).1) ?_
    show Steps p.tables e below (T79.setTop (mkF m 221 #[.val (.int p0), .val (.int p1), .val (.int p2), .val (.int p3), .val (.int val), .val (.int at_), .val (.int fill), .val (.ref b3), .val (.int j58), .val (.int (f1 at_ val))] [])) _
    refine XS.aload X79.here hx rfl (hb hby at_221) rfl rfl ?_
    show Steps p.tables e below (T79.setTop (mkF m 223 #[.val (.int p0), .val (.int p1), .val (.int p2), .val (.int p3), .val (.int val), .val (.int at_), .val (.int fill), .val (.ref b3), .val (.int j58), .val (.int (f1 at_ val))] [(.ref b3)])) _
    refine XS.iconst X79.here hx rfl (hb hby at_223) ?_
    show Steps p.tables e below (T79.setTop (mkF m 224 #[.val (.int p0), .val (.int p1), .val (.int p2), .val (.int p3), .val (.int val), .val (.int at_), .val (.int fill), .val (.ref b3), .val (.int j58), .val (.int (f1 at_ val))] [(.int (3 : Int32)), (.ref b3)])) _
    refine XS.iload X79.here hx rfl (hb hby at_224) rfl ?_
    show Steps p.tables e below (T79.setTop (mkF m 226 #[.val (.int p0), .val (.int p1), .val (.int p2), .val (.int p3), .val (.int val), .val (.int at_), .val (.int fill), .val (.ref b3), .val (.int j58), .val (.int (f1 at_ val))] [(.int at_), (.int (3 : Int32)), (.ref b3)])) _
    refine XS.iload X79.here hx rfl (hb hby at_226) rfl ?_
    show Steps p.tables e below (T79.setTop (mkF m 228 #[.val (.int p0), .val (.int p1), .val (.int p2), .val (.int p3), .val (.int val), .val (.int at_), .val (.int fill), .val (.ref b3), .val (.int j58), .val (.int (f1 at_ val))] [(.int j58), (.int at_), (.int (3 : Int32)), (.ref b3)])) _
    refine XS.iload X79.here hx rfl (hb hby at_228) rfl ?_
    show Steps p.tables e below (T79.setTop (mkF m 230 #[.val (.int p0), .val (.int p1), .val (.int p2), .val (.int p3), .val (.int val), .val (.int at_), .val (.int fill), .val (.ref b3), .val (.int j58), .val (.int (f1 at_ val))] [(.int val), (.int j58), (.int at_), (.int (3 : Int32)), (.ref b3)])) _
    refine XS.iload X79.here hx rfl (hb hby at_230) rfl ?_
    show Steps p.tables e below (T79.setTop (mkF m 232 #[.val (.int p0), .val (.int p1), .val (.int p2), .val (.int p3), .val (.int val), .val (.int at_), .val (.int fill), .val (.ref b3), .val (.int j58), .val (.int (f1 at_ val))] [(.int fill), (.int val), (.int j58), (.int at_), (.int (3 : Int32)), (.ref b3)])) _
    refine st82 _ ?_
    exact kt
  have hc235_84 : ¬ ((fok (3 : Int32) at_ j58 val fill w82) = (0 : Int32)) := by rw [ho82]; decide
  obtain ⟨w85, hg85, ho85⟩ := own_ok4 at_ val fill j58 hat4 hval0 hfn hj58
  obtain ⟨_, _, ⟨T85, L85, k85, n85⟩, -, X85, ⟨Lc85, hQ85, l85, y85, z85⟩, st85⟩ := Jvm.LawKit.callS X82 hx (y := (⟨"com/example/degree/degree/index/VarintPutPinLaw", "ok", "([BIIIIB)Z"⟩ : MethodName)) hown (mvT hZ (hw _ (List.mem_of_getElem? (i := 6) rfl))) (mvT hZ (hw _ (List.mem_of_getElem? (i := 7) rfl))) (mvT hZ (hw _ (List.mem_of_getElem? (i := 8) rfl))) (mvT hZ (hw _ (List.mem_of_getElem? (i := 9) rfl))) (by decide) (backOf (W := 0) (rm2 l Z a0 hw [] b3 (4 : Int32) at_ j58 val fill k3 (fput [(.int (nar .byte fill)), (.int (nar .byte fill)), (.int (nar .byte fill)), (.int (nar .byte fill)), (.int (nar .byte fill)), (.int (nar .byte fill)), (.int (nar .byte fill)), (.int (nar .byte fill)), (.int (nar .byte fill)), (.int (nar .byte fill))] at_ val) w85 T68.heap n0 z69 V68 (by decide) hg85) hZ (hw _ (List.mem_of_getElem? (i := 9) rfl)) (hw _ (List.mem_of_getElem? (i := 8) rfl)) (by decide) (by decide)) (g := (mkF m 249 #[.val (.int p0), .val (.int p1), .val (.int p2), .val (.int p3), .val (.int val), .val (.int at_), .val (.int fill), .val (.ref b3), .val (.int j58), .val (.int (f1 at_ val))] [(.int fill), (.int val), (.int j58), (.int at_), (.int (4 : Int32)), (.ref b3)])) rfl (by rw [hml]; rfl) (argsL := [(.ref b3), (.int (4 : Int32)), (.int at_), (.int j58), (.int val), (.int fill)]) (rest := []) (lenOf pd_1 rfl) rfl (by show 2 * 0 + _ ≤ _; exact Nat.le_of_eq rfl) (hb hby at_249) (fun _ _ => ⟨rfl, eh82, (by decide : 1 + 0 ≤ _), (by decide : 10 + 0 ≤ _)⟩)
  dsimp only [Pt.U, Pt.locs, Pt.cells, Pt.slots] at X85 l85 y85 z85 st85 hQ85
  subst l85 y85 z85
  obtain ⟨rfl, N85q, eh85⟩ := hQ85
  have N85 := Fr.app N82 N85q
  have G86 : ∀ t, Steps p.tables e below (T85.setTop (mkF m 252 #[.val (.int p0), .val (.int p1), .val (.int p2), .val (.int p3), .val (.int val), .val (.int at_), .val (.int fill), .val (.ref b3), .val (.int j58), .val (.int (f1 at_ val))] [(.int (fok (4 : Int32) at_ j58 val fill w85))])) t → Steps p.tables e below (s₁.setTop (entryFrame m #[(.int p0), (.int p1), (.int p2), (.int p3)] maxLocals)) t := by
    intro t kt
    refine G83 _ ?_
    show Steps p.tables e below (T82.setTop (mkF m 235 #[.val (.int p0), .val (.int p1), .val (.int p2), .val (.int p3), .val (.int val), .val (.int at_), .val (.int fill), .val (.ref b3), .val (.int j58), .val (.int (f1 at_ val))] [(.int (fok (3 : Int32) at_ j58 val fill w82))])) _
    refine XS.ifNo X82.here hx rfl (hb hby at_235) rfl ((if0 _ _).trans (feq hc235_84).1) ?_
    show Steps p.tables e below (T82.setTop (mkF m 238 #[.val (.int p0), .val (.int p1), .val (.int p2), .val (.int p3), .val (.int val), .val (.int at_), .val (.int fill), .val (.ref b3), .val (.int j58), .val (.int (f1 at_ val))] [])) _
    refine XS.aload X82.here hx rfl (hb hby at_238) rfl rfl ?_
    show Steps p.tables e below (T82.setTop (mkF m 240 #[.val (.int p0), .val (.int p1), .val (.int p2), .val (.int p3), .val (.int val), .val (.int at_), .val (.int fill), .val (.ref b3), .val (.int j58), .val (.int (f1 at_ val))] [(.ref b3)])) _
    refine XS.iconst X82.here hx rfl (hb hby at_240) ?_
    show Steps p.tables e below (T82.setTop (mkF m 241 #[.val (.int p0), .val (.int p1), .val (.int p2), .val (.int p3), .val (.int val), .val (.int at_), .val (.int fill), .val (.ref b3), .val (.int j58), .val (.int (f1 at_ val))] [(.int (4 : Int32)), (.ref b3)])) _
    refine XS.iload X82.here hx rfl (hb hby at_241) rfl ?_
    show Steps p.tables e below (T82.setTop (mkF m 243 #[.val (.int p0), .val (.int p1), .val (.int p2), .val (.int p3), .val (.int val), .val (.int at_), .val (.int fill), .val (.ref b3), .val (.int j58), .val (.int (f1 at_ val))] [(.int at_), (.int (4 : Int32)), (.ref b3)])) _
    refine XS.iload X82.here hx rfl (hb hby at_243) rfl ?_
    show Steps p.tables e below (T82.setTop (mkF m 245 #[.val (.int p0), .val (.int p1), .val (.int p2), .val (.int p3), .val (.int val), .val (.int at_), .val (.int fill), .val (.ref b3), .val (.int j58), .val (.int (f1 at_ val))] [(.int j58), (.int at_), (.int (4 : Int32)), (.ref b3)])) _
    refine XS.iload X82.here hx rfl (hb hby at_245) rfl ?_
    show Steps p.tables e below (T82.setTop (mkF m 247 #[.val (.int p0), .val (.int p1), .val (.int p2), .val (.int p3), .val (.int val), .val (.int at_), .val (.int fill), .val (.ref b3), .val (.int j58), .val (.int (f1 at_ val))] [(.int val), (.int j58), (.int at_), (.int (4 : Int32)), (.ref b3)])) _
    refine XS.iload X82.here hx rfl (hb hby at_247) rfl ?_
    show Steps p.tables e below (T82.setTop (mkF m 249 #[.val (.int p0), .val (.int p1), .val (.int p2), .val (.int p3), .val (.int val), .val (.int at_), .val (.int fill), .val (.ref b3), .val (.int j58), .val (.int (f1 at_ val))] [(.int fill), (.int val), (.int j58), (.int at_), (.int (4 : Int32)), (.ref b3)])) _
    refine st85 _ ?_
    exact kt
  have hc252_87 : ¬ ((fok (4 : Int32) at_ j58 val fill w85) = (0 : Int32)) := by rw [ho85]; decide
  obtain ⟨w88, hg88, ho88⟩ := own_ok5 at_ val fill j58 hat4 hval0 hfn hj58
  obtain ⟨_, _, ⟨T88, L88, k88, n88⟩, -, X88, ⟨Lc88, hQ88, l88, y88, z88⟩, st88⟩ := Jvm.LawKit.callS X85 hx (y := (⟨"com/example/degree/degree/index/VarintPutPinLaw", "ok", "([BIIIIB)Z"⟩ : MethodName)) hown (mvT hZ (hw _ (List.mem_of_getElem? (i := 6) rfl))) (mvT hZ (hw _ (List.mem_of_getElem? (i := 7) rfl))) (mvT hZ (hw _ (List.mem_of_getElem? (i := 8) rfl))) (mvT hZ (hw _ (List.mem_of_getElem? (i := 9) rfl))) (by decide) (backOf (W := 0) (rm2 l Z a0 hw [] b3 (5 : Int32) at_ j58 val fill k3 (fput [(.int (nar .byte fill)), (.int (nar .byte fill)), (.int (nar .byte fill)), (.int (nar .byte fill)), (.int (nar .byte fill)), (.int (nar .byte fill)), (.int (nar .byte fill)), (.int (nar .byte fill)), (.int (nar .byte fill)), (.int (nar .byte fill))] at_ val) w88 T68.heap n0 z69 V68 (by decide) hg88) hZ (hw _ (List.mem_of_getElem? (i := 9) rfl)) (hw _ (List.mem_of_getElem? (i := 8) rfl)) (by decide) (by decide)) (g := (mkF m 266 #[.val (.int p0), .val (.int p1), .val (.int p2), .val (.int p3), .val (.int val), .val (.int at_), .val (.int fill), .val (.ref b3), .val (.int j58), .val (.int (f1 at_ val))] [(.int fill), (.int val), (.int j58), (.int at_), (.int (5 : Int32)), (.ref b3)])) rfl (by rw [hml]; rfl) (argsL := [(.ref b3), (.int (5 : Int32)), (.int at_), (.int j58), (.int val), (.int fill)]) (rest := []) (lenOf pd_1 rfl) rfl (by show 2 * 0 + _ ≤ _; exact Nat.le_of_eq rfl) (hb hby at_266) (fun _ _ => ⟨rfl, eh85, (by decide : 1 + 0 ≤ _), (by decide : 10 + 0 ≤ _)⟩)
  dsimp only [Pt.U, Pt.locs, Pt.cells, Pt.slots] at X88 l88 y88 z88 st88 hQ88
  subst l88 y88 z88
  obtain ⟨rfl, N88q, eh88⟩ := hQ88
  have N88 := Fr.app N85 N88q
  have G89 : ∀ t, Steps p.tables e below (T88.setTop (mkF m 269 #[.val (.int p0), .val (.int p1), .val (.int p2), .val (.int p3), .val (.int val), .val (.int at_), .val (.int fill), .val (.ref b3), .val (.int j58), .val (.int (f1 at_ val))] [(.int (fok (5 : Int32) at_ j58 val fill w88))])) t → Steps p.tables e below (s₁.setTop (entryFrame m #[(.int p0), (.int p1), (.int p2), (.int p3)] maxLocals)) t := by
    intro t kt
    refine G86 _ ?_
    show Steps p.tables e below (T85.setTop (mkF m 252 #[.val (.int p0), .val (.int p1), .val (.int p2), .val (.int p3), .val (.int val), .val (.int at_), .val (.int fill), .val (.ref b3), .val (.int j58), .val (.int (f1 at_ val))] [(.int (fok (4 : Int32) at_ j58 val fill w85))])) _
    refine XS.ifNo X85.here hx rfl (hb hby at_252) rfl ((if0 _ _).trans (feq hc252_87).1) ?_
    show Steps p.tables e below (T85.setTop (mkF m 255 #[.val (.int p0), .val (.int p1), .val (.int p2), .val (.int p3), .val (.int val), .val (.int at_), .val (.int fill), .val (.ref b3), .val (.int j58), .val (.int (f1 at_ val))] [])) _
    refine XS.aload X85.here hx rfl (hb hby at_255) rfl rfl ?_
    show Steps p.tables e below (T85.setTop (mkF m 257 #[.val (.int p0), .val (.int p1), .val (.int p2), .val (.int p3), .val (.int val), .val (.int at_), .val (.int fill), .val (.ref b3), .val (.int j58), .val (.int (f1 at_ val))] [(.ref b3)])) _
    refine XS.iconst X85.here hx rfl (hb hby at_257) ?_
    show Steps p.tables e below (T85.setTop (mkF m 258 #[.val (.int p0), .val (.int p1), .val (.int p2), .val (.int p3), .val (.int val), .val (.int at_), .val (.int fill), .val (.ref b3), .val (.int j58), .val (.int (f1 at_ val))] [(.int (5 : Int32)), (.ref b3)])) _
    refine XS.iload X85.here hx rfl (hb hby at_258) rfl ?_
    show Steps p.tables e below (T85.setTop (mkF m 260 #[.val (.int p0), .val (.int p1), .val (.int p2), .val (.int p3), .val (.int val), .val (.int at_), .val (.int fill), .val (.ref b3), .val (.int j58), .val (.int (f1 at_ val))] [(.int at_), (.int (5 : Int32)), (.ref b3)])) _
    refine XS.iload X85.here hx rfl (hb hby at_260) rfl ?_
    show Steps p.tables e below (T85.setTop (mkF m 262 #[.val (.int p0), .val (.int p1), .val (.int p2), .val (.int p3), .val (.int val), .val (.int at_), .val (.int fill), .val (.ref b3), .val (.int j58), .val (.int (f1 at_ val))] [(.int j58), (.int at_), (.int (5 : Int32)), (.ref b3)])) _
    refine XS.iload X85.here hx rfl (hb hby at_262) rfl ?_
    show Steps p.tables e below (T85.setTop (mkF m 264 #[.val (.int p0), .val (.int p1), .val (.int p2), .val (.int p3), .val (.int val), .val (.int at_), .val (.int fill), .val (.ref b3), .val (.int j58), .val (.int (f1 at_ val))] [(.int val), (.int j58), (.int at_), (.int (5 : Int32)), (.ref b3)])) _
    refine XS.iload X85.here hx rfl (hb hby at_264) rfl ?_
    show Steps p.tables e below (T85.setTop (mkF m 266 #[.val (.int p0), .val (.int p1), .val (.int p2), .val (.int p3), .val (.int val), .val (.int at_), .val (.int fill), .val (.ref b3), .val (.int j58), .val (.int (f1 at_ val))] [(.int fill), (.int val), (.int j58), (.int at_), (.int (5 : Int32)), (.ref b3)])) _
    refine st88 _ ?_
    exact kt
  have hc269_90 : ¬ ((fok (5 : Int32) at_ j58 val fill w88) = (0 : Int32)) := by rw [ho88]; decide
  obtain ⟨w91, hg91, ho91⟩ := own_ok6 at_ val fill j58 hat4 hval0 hfn hj58
  obtain ⟨_, _, ⟨T91, L91, k91, n91⟩, -, X91, ⟨Lc91, hQ91, l91, y91, z91⟩, st91⟩ := Jvm.LawKit.callS X88 hx (y := (⟨"com/example/degree/degree/index/VarintPutPinLaw", "ok", "([BIIIIB)Z"⟩ : MethodName)) hown (mvT hZ (hw _ (List.mem_of_getElem? (i := 6) rfl))) (mvT hZ (hw _ (List.mem_of_getElem? (i := 7) rfl))) (mvT hZ (hw _ (List.mem_of_getElem? (i := 8) rfl))) (mvT hZ (hw _ (List.mem_of_getElem? (i := 9) rfl))) (by decide) (backOf (W := 0) (rm2 l Z a0 hw [] b3 (6 : Int32) at_ j58 val fill k3 (fput [(.int (nar .byte fill)), (.int (nar .byte fill)), (.int (nar .byte fill)), (.int (nar .byte fill)), (.int (nar .byte fill)), (.int (nar .byte fill)), (.int (nar .byte fill)), (.int (nar .byte fill)), (.int (nar .byte fill)), (.int (nar .byte fill))] at_ val) w91 T68.heap n0 z69 V68 (by decide) hg91) hZ (hw _ (List.mem_of_getElem? (i := 9) rfl)) (hw _ (List.mem_of_getElem? (i := 8) rfl)) (by decide) (by decide)) (g := (mkF m 284 #[.val (.int p0), .val (.int p1), .val (.int p2), .val (.int p3), .val (.int val), .val (.int at_), .val (.int fill), .val (.ref b3), .val (.int j58), .val (.int (f1 at_ val))] [(.int fill), (.int val), (.int j58), (.int at_), (.int (6 : Int32)), (.ref b3)])) rfl (by rw [hml]; rfl) (argsL := [(.ref b3), (.int (6 : Int32)), (.int at_), (.int j58), (.int val), (.int fill)]) (rest := []) (lenOf pd_1 rfl) rfl (by show 2 * 0 + _ ≤ _; exact Nat.le_of_eq rfl) (hb hby at_284) (fun _ _ => ⟨rfl, eh88, (by decide : 1 + 0 ≤ _), (by decide : 10 + 0 ≤ _)⟩)
  dsimp only [Pt.U, Pt.locs, Pt.cells, Pt.slots] at X91 l91 y91 z91 st91 hQ91
  subst l91 y91 z91
  obtain ⟨rfl, N91q, eh91⟩ := hQ91
  have N91 := Fr.app N88 N91q
  have G92 : ∀ t, Steps p.tables e below (T91.setTop (mkF m 287 #[.val (.int p0), .val (.int p1), .val (.int p2), .val (.int p3), .val (.int val), .val (.int at_), .val (.int fill), .val (.ref b3), .val (.int j58), .val (.int (f1 at_ val))] [(.int (fok (6 : Int32) at_ j58 val fill w91))])) t → Steps p.tables e below (s₁.setTop (entryFrame m #[(.int p0), (.int p1), (.int p2), (.int p3)] maxLocals)) t := by
    intro t kt
    refine G89 _ ?_
    show Steps p.tables e below (T88.setTop (mkF m 269 #[.val (.int p0), .val (.int p1), .val (.int p2), .val (.int p3), .val (.int val), .val (.int at_), .val (.int fill), .val (.ref b3), .val (.int j58), .val (.int (f1 at_ val))] [(.int (fok (5 : Int32) at_ j58 val fill w88))])) _
    refine XS.ifNo X88.here hx rfl (hb hby at_269) rfl ((if0 _ _).trans (feq hc269_90).1) ?_
    show Steps p.tables e below (T88.setTop (mkF m 272 #[.val (.int p0), .val (.int p1), .val (.int p2), .val (.int p3), .val (.int val), .val (.int at_), .val (.int fill), .val (.ref b3), .val (.int j58), .val (.int (f1 at_ val))] [])) _
    refine XS.aload X88.here hx rfl (hb hby at_272) rfl rfl ?_
    show Steps p.tables e below (T88.setTop (mkF m 274 #[.val (.int p0), .val (.int p1), .val (.int p2), .val (.int p3), .val (.int val), .val (.int at_), .val (.int fill), .val (.ref b3), .val (.int j58), .val (.int (f1 at_ val))] [(.ref b3)])) _
    refine XS.bipush X88.here hx rfl (hb hby at_274) ?_
    show Steps p.tables e below (T88.setTop (mkF m 276 #[.val (.int p0), .val (.int p1), .val (.int p2), .val (.int p3), .val (.int val), .val (.int at_), .val (.int fill), .val (.ref b3), .val (.int j58), .val (.int (f1 at_ val))] [(.int (6 : Int32)), (.ref b3)])) _
    refine XS.iload X88.here hx rfl (hb hby at_276) rfl ?_
    show Steps p.tables e below (T88.setTop (mkF m 278 #[.val (.int p0), .val (.int p1), .val (.int p2), .val (.int p3), .val (.int val), .val (.int at_), .val (.int fill), .val (.ref b3), .val (.int j58), .val (.int (f1 at_ val))] [(.int at_), (.int (6 : Int32)), (.ref b3)])) _
    refine XS.iload X88.here hx rfl (hb hby at_278) rfl ?_
    show Steps p.tables e below (T88.setTop (mkF m 280 #[.val (.int p0), .val (.int p1), .val (.int p2), .val (.int p3), .val (.int val), .val (.int at_), .val (.int fill), .val (.ref b3), .val (.int j58), .val (.int (f1 at_ val))] [(.int j58), (.int at_), (.int (6 : Int32)), (.ref b3)])) _
    refine XS.iload X88.here hx rfl (hb hby at_280) rfl ?_
    show Steps p.tables e below (T88.setTop (mkF m 282 #[.val (.int p0), .val (.int p1), .val (.int p2), .val (.int p3), .val (.int val), .val (.int at_), .val (.int fill), .val (.ref b3), .val (.int j58), .val (.int (f1 at_ val))] [(.int val), (.int j58), (.int at_), (.int (6 : Int32)), (.ref b3)])) _
    refine XS.iload X88.here hx rfl (hb hby at_282) rfl ?_
    show Steps p.tables e below (T88.setTop (mkF m 284 #[.val (.int p0), .val (.int p1), .val (.int p2), .val (.int p3), .val (.int val), .val (.int at_), .val (.int fill), .val (.ref b3), .val (.int j58), .val (.int (f1 at_ val))] [(.int fill), (.int val), (.int j58), (.int at_), (.int (6 : Int32)), (.ref b3)])) _
    refine st91 _ ?_
    exact kt
  have hc287_93 : ¬ ((fok (6 : Int32) at_ j58 val fill w91) = (0 : Int32)) := by rw [ho91]; decide
  obtain ⟨w94, hg94, ho94⟩ := own_ok7 at_ val fill j58 hat4 hval0 hfn hj58
  obtain ⟨_, _, ⟨T94, L94, k94, n94⟩, -, X94, ⟨Lc94, hQ94, l94, y94, z94⟩, st94⟩ := Jvm.LawKit.callS X91 hx (y := (⟨"com/example/degree/degree/index/VarintPutPinLaw", "ok", "([BIIIIB)Z"⟩ : MethodName)) hown (mvT hZ (hw _ (List.mem_of_getElem? (i := 6) rfl))) (mvT hZ (hw _ (List.mem_of_getElem? (i := 7) rfl))) (mvT hZ (hw _ (List.mem_of_getElem? (i := 8) rfl))) (mvT hZ (hw _ (List.mem_of_getElem? (i := 9) rfl))) (by decide) (backOf (W := 0) (rm2 l Z a0 hw [] b3 (7 : Int32) at_ j58 val fill k3 (fput [(.int (nar .byte fill)), (.int (nar .byte fill)), (.int (nar .byte fill)), (.int (nar .byte fill)), (.int (nar .byte fill)), (.int (nar .byte fill)), (.int (nar .byte fill)), (.int (nar .byte fill)), (.int (nar .byte fill)), (.int (nar .byte fill))] at_ val) w94 T68.heap n0 z69 V68 (by decide) hg94) hZ (hw _ (List.mem_of_getElem? (i := 9) rfl)) (hw _ (List.mem_of_getElem? (i := 8) rfl)) (by decide) (by decide)) (g := (mkF m 302 #[.val (.int p0), .val (.int p1), .val (.int p2), .val (.int p3), .val (.int val), .val (.int at_), .val (.int fill), .val (.ref b3), .val (.int j58), .val (.int (f1 at_ val))] [(.int fill), (.int val), (.int j58), (.int at_), (.int (7 : Int32)), (.ref b3)])) rfl (by rw [hml]; rfl) (argsL := [(.ref b3), (.int (7 : Int32)), (.int at_), (.int j58), (.int val), (.int fill)]) (rest := []) (lenOf pd_1 rfl) rfl (by show 2 * 0 + _ ≤ _; exact Nat.le_of_eq rfl) (hb hby at_302) (fun _ _ => ⟨rfl, eh91, (by decide : 1 + 0 ≤ _), (by decide : 10 + 0 ≤ _)⟩)
  dsimp only [Pt.U, Pt.locs, Pt.cells, Pt.slots] at X94 l94 y94 z94 st94 hQ94
  subst l94 y94 z94
  obtain ⟨rfl, N94q, eh94⟩ := hQ94
  have N94 := Fr.app N91 N94q
  have G95 : ∀ t, Steps p.tables e below (T94.setTop (mkF m 305 #[.val (.int p0), .val (.int p1), .val (.int p2), .val (.int p3), .val (.int val), .val (.int at_), .val (.int fill), .val (.ref b3), .val (.int j58), .val (.int (f1 at_ val))] [(.int (fok (7 : Int32) at_ j58 val fill w94))])) t → Steps p.tables e below (s₁.setTop (entryFrame m #[(.int p0), (.int p1), (.int p2), (.int p3)] maxLocals)) t := by
    intro t kt
    refine G92 _ ?_
    show Steps p.tables e below (T91.setTop (mkF m 287 #[.val (.int p0), .val (.int p1), .val (.int p2), .val (.int p3), .val (.int val), .val (.int at_), .val (.int fill), .val (.ref b3), .val (.int j58), .val (.int (f1 at_ val))] [(.int (fok (6 : Int32) at_ j58 val fill w91))])) _
    refine XS.ifNo X91.here hx rfl (hb hby at_287) rfl ((if0 _ _).trans (feq hc287_93).1) ?_
    show Steps p.tables e below (T91.setTop (mkF m 290 #[.val (.int p0), .val (.int p1), .val (.int p2), .val (.int p3), .val (.int val), .val (.int at_), .val (.int fill), .val (.ref b3), .val (.int j58), .val (.int (f1 at_ val))] [])) _
    refine XS.aload X91.here hx rfl (hb hby at_290) rfl rfl ?_
    show Steps p.tables e below (T91.setTop (mkF m 292 #[.val (.int p0), .val (.int p1), .val (.int p2), .val (.int p3), .val (.int val), .val (.int at_), .val (.int fill), .val (.ref b3), .val (.int j58), .val (.int (f1 at_ val))] [(.ref b3)])) _
    refine XS.bipush X91.here hx rfl (hb hby at_292) ?_
    show Steps p.tables e below (T91.setTop (mkF m 294 #[.val (.int p0), .val (.int p1), .val (.int p2), .val (.int p3), .val (.int val), .val (.int at_), .val (.int fill), .val (.ref b3), .val (.int j58), .val (.int (f1 at_ val))] [(.int (7 : Int32)), (.ref b3)])) _
    refine XS.iload X91.here hx rfl (hb hby at_294) rfl ?_
    show Steps p.tables e below (T91.setTop (mkF m 296 #[.val (.int p0), .val (.int p1), .val (.int p2), .val (.int p3), .val (.int val), .val (.int at_), .val (.int fill), .val (.ref b3), .val (.int j58), .val (.int (f1 at_ val))] [(.int at_), (.int (7 : Int32)), (.ref b3)])) _
    refine XS.iload X91.here hx rfl (hb hby at_296) rfl ?_
    show Steps p.tables e below (T91.setTop (mkF m 298 #[.val (.int p0), .val (.int p1), .val (.int p2), .val (.int p3), .val (.int val), .val (.int at_), .val (.int fill), .val (.ref b3), .val (.int j58), .val (.int (f1 at_ val))] [(.int j58), (.int at_), (.int (7 : Int32)), (.ref b3)])) _
    refine XS.iload X91.here hx rfl (hb hby at_298) rfl ?_
    show Steps p.tables e below (T91.setTop (mkF m 300 #[.val (.int p0), .val (.int p1), .val (.int p2), .val (.int p3), .val (.int val), .val (.int at_), .val (.int fill), .val (.ref b3), .val (.int j58), .val (.int (f1 at_ val))] [(.int val), (.int j58), (.int at_), (.int (7 : Int32)), (.ref b3)])) _
    refine XS.iload X91.here hx rfl (hb hby at_300) rfl ?_
    show Steps p.tables e below (T91.setTop (mkF m 302 #[.val (.int p0), .val (.int p1), .val (.int p2), .val (.int p3), .val (.int val), .val (.int at_), .val (.int fill), .val (.ref b3), .val (.int j58), .val (.int (f1 at_ val))] [(.int fill), (.int val), (.int j58), (.int at_), (.int (7 : Int32)), (.ref b3)])) _
    refine st94 _ ?_
    exact kt
  have hc305_96 : ¬ ((fok (7 : Int32) at_ j58 val fill w94) = (0 : Int32)) := by rw [ho94]; decide
  obtain ⟨w97, hg97, ho97⟩ := own_ok8 at_ val fill j58 hat4 hval0 hfn hj58
  obtain ⟨_, _, ⟨T97, L97, k97, n97⟩, -, X97, ⟨Lc97, hQ97, l97, y97, z97⟩, st97⟩ := Jvm.LawKit.callS X94 hx (y := (⟨"com/example/degree/degree/index/VarintPutPinLaw", "ok", "([BIIIIB)Z"⟩ : MethodName)) hown (mvT hZ (hw _ (List.mem_of_getElem? (i := 6) rfl))) (mvT hZ (hw _ (List.mem_of_getElem? (i := 7) rfl))) (mvT hZ (hw _ (List.mem_of_getElem? (i := 8) rfl))) (mvT hZ (hw _ (List.mem_of_getElem? (i := 9) rfl))) (by decide) (backOf (W := 0) (rm2 l Z a0 hw [] b3 (8 : Int32) at_ j58 val fill k3 (fput [(.int (nar .byte fill)), (.int (nar .byte fill)), (.int (nar .byte fill)), (.int (nar .byte fill)), (.int (nar .byte fill)), (.int (nar .byte fill)), (.int (nar .byte fill)), (.int (nar .byte fill)), (.int (nar .byte fill)), (.int (nar .byte fill))] at_ val) w97 T68.heap n0 z69 V68 (by decide) hg97) hZ (hw _ (List.mem_of_getElem? (i := 9) rfl)) (hw _ (List.mem_of_getElem? (i := 8) rfl)) (by decide) (by decide)) (g := (mkF m 320 #[.val (.int p0), .val (.int p1), .val (.int p2), .val (.int p3), .val (.int val), .val (.int at_), .val (.int fill), .val (.ref b3), .val (.int j58), .val (.int (f1 at_ val))] [(.int fill), (.int val), (.int j58), (.int at_), (.int (8 : Int32)), (.ref b3)])) rfl (by rw [hml]; rfl) (argsL := [(.ref b3), (.int (8 : Int32)), (.int at_), (.int j58), (.int val), (.int fill)]) (rest := []) (lenOf pd_1 rfl) rfl (by show 2 * 0 + _ ≤ _; exact Nat.le_of_eq rfl) (hb hby at_320) (fun _ _ => ⟨rfl, eh94, (by decide : 1 + 0 ≤ _), (by decide : 10 + 0 ≤ _)⟩)
  dsimp only [Pt.U, Pt.locs, Pt.cells, Pt.slots] at X97 l97 y97 z97 st97 hQ97
  subst l97 y97 z97
  obtain ⟨rfl, N97q, eh97⟩ := hQ97
  have N97 := Fr.app N94 N97q
  have G98 : ∀ t, Steps p.tables e below (T97.setTop (mkF m 323 #[.val (.int p0), .val (.int p1), .val (.int p2), .val (.int p3), .val (.int val), .val (.int at_), .val (.int fill), .val (.ref b3), .val (.int j58), .val (.int (f1 at_ val))] [(.int (fok (8 : Int32) at_ j58 val fill w97))])) t → Steps p.tables e below (s₁.setTop (entryFrame m #[(.int p0), (.int p1), (.int p2), (.int p3)] maxLocals)) t := by
    intro t kt
    refine G95 _ ?_
    show Steps p.tables e below (T94.setTop (mkF m 305 #[.val (.int p0), .val (.int p1), .val (.int p2), .val (.int p3), .val (.int val), .val (.int at_), .val (.int fill), .val (.ref b3), .val (.int j58), .val (.int (f1 at_ val))] [(.int (fok (7 : Int32) at_ j58 val fill w94))])) _
    refine XS.ifNo X94.here hx rfl (hb hby at_305) rfl ((if0 _ _).trans (feq hc305_96).1) ?_
    show Steps p.tables e below (T94.setTop (mkF m 308 #[.val (.int p0), .val (.int p1), .val (.int p2), .val (.int p3), .val (.int val), .val (.int at_), .val (.int fill), .val (.ref b3), .val (.int j58), .val (.int (f1 at_ val))] [])) _
    refine XS.aload X94.here hx rfl (hb hby at_308) rfl rfl ?_
    show Steps p.tables e below (T94.setTop (mkF m 310 #[.val (.int p0), .val (.int p1), .val (.int p2), .val (.int p3), .val (.int val), .val (.int at_), .val (.int fill), .val (.ref b3), .val (.int j58), .val (.int (f1 at_ val))] [(.ref b3)])) _
    refine XS.bipush X94.here hx rfl (hb hby at_310) ?_
    show Steps p.tables e below (T94.setTop (mkF m 312 #[.val (.int p0), .val (.int p1), .val (.int p2), .val (.int p3), .val (.int val), .val (.int at_), .val (.int fill), .val (.ref b3), .val (.int j58), .val (.int (f1 at_ val))] [(.int (8 : Int32)), (.ref b3)])) _
    refine XS.iload X94.here hx rfl (hb hby at_312) rfl ?_
    show Steps p.tables e below (T94.setTop (mkF m 314 #[.val (.int p0), .val (.int p1), .val (.int p2), .val (.int p3), .val (.int val), .val (.int at_), .val (.int fill), .val (.ref b3), .val (.int j58), .val (.int (f1 at_ val))] [(.int at_), (.int (8 : Int32)), (.ref b3)])) _
    refine XS.iload X94.here hx rfl (hb hby at_314) rfl ?_
    show Steps p.tables e below (T94.setTop (mkF m 316 #[.val (.int p0), .val (.int p1), .val (.int p2), .val (.int p3), .val (.int val), .val (.int at_), .val (.int fill), .val (.ref b3), .val (.int j58), .val (.int (f1 at_ val))] [(.int j58), (.int at_), (.int (8 : Int32)), (.ref b3)])) _
    refine XS.iload X94.here hx rfl (hb hby at_316) rfl ?_
    show Steps p.tables e below (T94.setTop (mkF m 318 #[.val (.int p0), .val (.int p1), .val (.int p2), .val (.int p3), .val (.int val), .val (.int at_), .val (.int fill), .val (.ref b3), .val (.int j58), .val (.int (f1 at_ val))] [(.int val), (.int j58), (.int at_), (.int (8 : Int32)), (.ref b3)])) _
    refine XS.iload X94.here hx rfl (hb hby at_318) rfl ?_
    show Steps p.tables e below (T94.setTop (mkF m 320 #[.val (.int p0), .val (.int p1), .val (.int p2), .val (.int p3), .val (.int val), .val (.int at_), .val (.int fill), .val (.ref b3), .val (.int j58), .val (.int (f1 at_ val))] [(.int fill), (.int val), (.int j58), (.int at_), (.int (8 : Int32)), (.ref b3)])) _
    refine st97 _ ?_
    exact kt
  have hc323_99 : ¬ ((fok (8 : Int32) at_ j58 val fill w97) = (0 : Int32)) := by rw [ho97]; decide
  obtain ⟨w100, hg100, ho100⟩ := own_ok9 at_ val fill j58 hat4 hval0 hfn hj58
  obtain ⟨_, _, ⟨T100, L100, k100, n100⟩, -, X100, ⟨Lc100, hQ100, l100, y100, z100⟩, st100⟩ := Jvm.LawKit.callS X97 hx (y := (⟨"com/example/degree/degree/index/VarintPutPinLaw", "ok", "([BIIIIB)Z"⟩ : MethodName)) hown (mvT hZ (hw _ (List.mem_of_getElem? (i := 6) rfl))) (mvT hZ (hw _ (List.mem_of_getElem? (i := 7) rfl))) (mvT hZ (hw _ (List.mem_of_getElem? (i := 8) rfl))) (mvT hZ (hw _ (List.mem_of_getElem? (i := 9) rfl))) (by decide) (backOf (W := 0) (rm2 l Z a0 hw [] b3 (9 : Int32) at_ j58 val fill k3 (fput [(.int (nar .byte fill)), (.int (nar .byte fill)), (.int (nar .byte fill)), (.int (nar .byte fill)), (.int (nar .byte fill)), (.int (nar .byte fill)), (.int (nar .byte fill)), (.int (nar .byte fill)), (.int (nar .byte fill)), (.int (nar .byte fill))] at_ val) w100 T68.heap n0 z69 V68 (by decide) hg100) hZ (hw _ (List.mem_of_getElem? (i := 9) rfl)) (hw _ (List.mem_of_getElem? (i := 8) rfl)) (by decide) (by decide)) (g := (mkF m 338 #[.val (.int p0), .val (.int p1), .val (.int p2), .val (.int p3), .val (.int val), .val (.int at_), .val (.int fill), .val (.ref b3), .val (.int j58), .val (.int (f1 at_ val))] [(.int fill), (.int val), (.int j58), (.int at_), (.int (9 : Int32)), (.ref b3)])) rfl (by rw [hml]; rfl) (argsL := [(.ref b3), (.int (9 : Int32)), (.int at_), (.int j58), (.int val), (.int fill)]) (rest := []) (lenOf pd_1 rfl) rfl (by show 2 * 0 + _ ≤ _; exact Nat.le_of_eq rfl) (hb hby at_338) (fun _ _ => ⟨rfl, eh97, (by decide : 1 + 0 ≤ _), (by decide : 10 + 0 ≤ _)⟩)
  dsimp only [Pt.U, Pt.locs, Pt.cells, Pt.slots] at X100 l100 y100 z100 st100 hQ100
  subst l100 y100 z100
  obtain ⟨rfl, N100q, eh100⟩ := hQ100
  have N100 := Fr.app N97 N100q
  have G101 : ∀ t, Steps p.tables e below (T100.setTop (mkF m 341 #[.val (.int p0), .val (.int p1), .val (.int p2), .val (.int p3), .val (.int val), .val (.int at_), .val (.int fill), .val (.ref b3), .val (.int j58), .val (.int (f1 at_ val))] [(.int (fok (9 : Int32) at_ j58 val fill w100))])) t → Steps p.tables e below (s₁.setTop (entryFrame m #[(.int p0), (.int p1), (.int p2), (.int p3)] maxLocals)) t := by
    intro t kt
    refine G98 _ ?_
    show Steps p.tables e below (T97.setTop (mkF m 323 #[.val (.int p0), .val (.int p1), .val (.int p2), .val (.int p3), .val (.int val), .val (.int at_), .val (.int fill), .val (.ref b3), .val (.int j58), .val (.int (f1 at_ val))] [(.int (fok (8 : Int32) at_ j58 val fill w97))])) _
    refine XS.ifNo X97.here hx rfl (hb hby at_323) rfl ((if0 _ _).trans (feq hc323_99).1) ?_
    show Steps p.tables e below (T97.setTop (mkF m 326 #[.val (.int p0), .val (.int p1), .val (.int p2), .val (.int p3), .val (.int val), .val (.int at_), .val (.int fill), .val (.ref b3), .val (.int j58), .val (.int (f1 at_ val))] [])) _
    refine XS.aload X97.here hx rfl (hb hby at_326) rfl rfl ?_
    show Steps p.tables e below (T97.setTop (mkF m 328 #[.val (.int p0), .val (.int p1), .val (.int p2), .val (.int p3), .val (.int val), .val (.int at_), .val (.int fill), .val (.ref b3), .val (.int j58), .val (.int (f1 at_ val))] [(.ref b3)])) _
    refine XS.bipush X97.here hx rfl (hb hby at_328) ?_
    show Steps p.tables e below (T97.setTop (mkF m 330 #[.val (.int p0), .val (.int p1), .val (.int p2), .val (.int p3), .val (.int val), .val (.int at_), .val (.int fill), .val (.ref b3), .val (.int j58), .val (.int (f1 at_ val))] [(.int (9 : Int32)), (.ref b3)])) _
    refine XS.iload X97.here hx rfl (hb hby at_330) rfl ?_
    show Steps p.tables e below (T97.setTop (mkF m 332 #[.val (.int p0), .val (.int p1), .val (.int p2), .val (.int p3), .val (.int val), .val (.int at_), .val (.int fill), .val (.ref b3), .val (.int j58), .val (.int (f1 at_ val))] [(.int at_), (.int (9 : Int32)), (.ref b3)])) _
    refine XS.iload X97.here hx rfl (hb hby at_332) rfl ?_
    show Steps p.tables e below (T97.setTop (mkF m 334 #[.val (.int p0), .val (.int p1), .val (.int p2), .val (.int p3), .val (.int val), .val (.int at_), .val (.int fill), .val (.ref b3), .val (.int j58), .val (.int (f1 at_ val))] [(.int j58), (.int at_), (.int (9 : Int32)), (.ref b3)])) _
    refine XS.iload X97.here hx rfl (hb hby at_334) rfl ?_
    show Steps p.tables e below (T97.setTop (mkF m 336 #[.val (.int p0), .val (.int p1), .val (.int p2), .val (.int p3), .val (.int val), .val (.int at_), .val (.int fill), .val (.ref b3), .val (.int j58), .val (.int (f1 at_ val))] [(.int val), (.int j58), (.int at_), (.int (9 : Int32)), (.ref b3)])) _
    refine XS.iload X97.here hx rfl (hb hby at_336) rfl ?_
    show Steps p.tables e below (T97.setTop (mkF m 338 #[.val (.int p0), .val (.int p1), .val (.int p2), .val (.int p3), .val (.int val), .val (.int at_), .val (.int fill), .val (.ref b3), .val (.int j58), .val (.int (f1 at_ val))] [(.int fill), (.int val), (.int j58), (.int at_), (.int (9 : Int32)), (.ref b3)])) _
    refine st100 _ ?_
    exact kt
  have hc341_102 : ¬ ((fok (9 : Int32) at_ j58 val fill w100) = (0 : Int32)) := by rw [ho100]; decide
  obtain ⟨fs, hr, hrun, hended, hW, hsame⟩ := X100.leave (v := some (.int (1 : Int32))) (fun h => by rw [Bd.returns] at h; cases h)
  refine ⟨_, _, G101 _ ?_, hrun, hended, _, _, rfl, ?_, ⟨_, rfl⟩, hW, hsame.mono (by decide) (by decide)⟩
  · skip
    show Steps p.tables e below (T100.setTop (mkF m 341 #[.val (.int p0), .val (.int p1), .val (.int p2), .val (.int p3), .val (.int val), .val (.int at_), .val (.int fill), .val (.ref b3), .val (.int j58), .val (.int (f1 at_ val))] [(.int (fok (9 : Int32) at_ j58 val fill w100))])) _
    refine XS.ifNo X100.here hx rfl (hb hby at_341) rfl ((if0 _ _).trans (feq hc341_102).1) ?_
    show Steps p.tables e below (T100.setTop (mkF m 344 #[.val (.int p0), .val (.int p1), .val (.int p2), .val (.int p3), .val (.int val), .val (.int at_), .val (.int fill), .val (.ref b3), .val (.int j58), .val (.int (f1 at_ val))] [])) _
    refine XS.iconst X100.here hx rfl (hb hby at_344) ?_
    show Steps p.tables e below (T100.setTop (mkF m 345 #[.val (.int p0), .val (.int p1), .val (.int p2), .val (.int p3), .val (.int val), .val (.int at_), .val (.int fill), .val (.ref b3), .val (.int j58), .val (.int (f1 at_ val))] [(.int (1 : Int32))])) _
    refine XS.goto X100.here hx rfl (pc0 := 345) (pc' := 349) rfl (hb hby at_345) (by decide) (by decide) ?_
    show Steps p.tables e below (T100.setTop (mkF m 349 #[.val (.int p0), .val (.int p1), .val (.int p2), .val (.int p3), .val (.int val), .val (.int at_), .val (.int fill), .val (.ref b3), .val (.int j58), .val (.int (f1 at_ val))] [(.int (1 : Int32))])) _
    exact retN X100 hx (t := .boolean) Bd.returns (by simp) (hb hby at_349) hr
  · show Q0 Z p0 p1 p2 p3 h0 n0 _ T100.heap _
    rw [eh100]
    exact ⟨rfl, N100⟩
set_option maxRecDepth 65536 in
set_option maxHeartbeats 40000000 in
theorem comes_1 {Post : Tables → Env → Array Value → State → Outcome → State → Prop} (hpost : ∀ tb e args s v u, (limb_1_1.after args s (.returned v) u = true ∧ limb_1_2.after args s (.returned v) u = true ∧ True) → FrameEnd s (.returned v) u (Jvm.fieldLocs frame_1_writes args s ++ Jvm.arrayLocs frame_1_arrays args s ++ Jvm.staticLocs frame_1_statics s) 16 128 → Post tb e args s (.returned v) u) :
    ArmFor flags0 classFile x code maxLocals ret World_1 tables_1 room_1 Calls_1 rest_1 Pre_1 Post := by
  intro l hfl _ _ p e ha hc hk s m args below hf hA hF happ hP
  obtain ⟨hcalls, hrest, hpre⟩ := hP
  obtain ⟨-, -, -, hnamed, -, -, -, hat⟩ := (Spec.applies_iff hf).mp happ
  obtain ⟨hg, hn⟩ := and_e (Cond.before_iff.mp (show (Jvm.Cond.and given_1 narrow_1).before args s = true from hpre))
  obtain ⟨g1, g2⟩ := and_e hg
  obtain ⟨g3, g4⟩ := and_e g2
  obtain ⟨g5, g6⟩ := and_e g4
  obtain ⟨g7, g8⟩ := and_e g6
  obtain ⟨w0, w1, w2, w3, rfl⟩ : ∃ w0 w1 w2 w3 : Value, args = #[w0, w1, w2, w3] := by
    have hs : args.size = 4 := by simpa [Cond.value, given_1] using g1
    obtain ⟨L⟩ := args
    match L, hs with
    | [w0, w1, w2, w3], _ => exact ⟨w0, w1, w2, w3, rfl⟩
  have hw := fun d (hd : d ∈ tables_1) => atoms_spec (ws := Jvm.Cond.code x code maxLocals ret :: tables_1) hat d (List.mem_cons_of_mem _ hd)
  have hfit : Fit s := fun {y c} hc i hi => by
    obtain ⟨ha, rfl⟩ := Array.getElem?_eq_some_iff.mp hc
    have q := List.all_eq_true.mp ((Array.all_eq_true_iff_forall_mem.mp hF) _ (Array.getElem_mem ha)) i (List.mem_range.mpr hi)
    simpa [Array.getElem?_eq_getElem hi] using q
  obtain ⟨i0, ei0⟩ := is_v g3
  obtain rfl : w0 = (.int i0) := Option.some.inj ei0
  obtain ⟨i1, ei1⟩ := is_v g5
  obtain rfl : w1 = (.int i1) := Option.some.inj ei1
  obtain ⟨i2, ei2⟩ := is_v g7
  obtain rfl : w2 = (.int i2) := Option.some.inj ei2
  obtain ⟨i3, ei3⟩ := is_v g8
  obtain rfl : w3 = (.int i3) := Option.some.inj ei3
  obtain ⟨n, o, h1, h2, h3, _, L, rfl, ⟨rfl, N⟩, hq⟩ := rm0 l s _ hw tables_1 i0 i1 i2 i3  s.heap s.heap.size (Nat.le_refl _)  p e ha hc hk s m _ below hf ((Spec.applies_iff_loose hf).mp happ).1 ⟨rfl, State.Warmed39.refl s, rfl⟩ trivial
  refine ⟨n, _, h1, h2, h3, hpost _ _ _ _ _ _ ⟨Cond.after_iff.mpr rfl, Cond.after_iff.mpr (eq_i res_at (Term.int_eval (1)) rfl), trivial⟩ ⟨hq.1, hq.2.1, (hq.2.2.sift fun y hy => Or.inr (N y hy)).mono (by decide) (by decide)⟩⟩
theorem main_1_1 : Claimed_1_1 := comes_1 fun _ _ _ _ _ _ h hF => ⟨h.1, hF⟩
theorem main_1_2 : Claimed_1_2 := comes_1 fun _ _ _ _ _ _ h hF => ⟨h.2.1, hF⟩
end Jvm.Pilot.@@N@@
namespace Jvm.Pilot.@@N@@
open Jvm Jvm.ClassFile Sem Op Lib Jvm.Free Jvm.Stand Jvm.Pilot.@@N@@.Jvm.D
/-! MADE BY PROGRAM (witnessworld.py) out of the Statement's table words and the real class files: 9 classes; the members and pool entries that the words name. The judged class is class 1, her method 1. -/
namespace start1
open Jvm.ClassFile
def u (s : String) : CpInfo := .utf8 (stringToUtf16 s)
/-- a pool by its gaps: so many unusable entries, then the entry; so many at the end -/
def gap : Nat → List CpInfo → List CpInfo
  | 0, r => r
  | n + 1, r => .unusable :: gap n r
def poolList (es : List (Nat × CpInfo)) (last : Nat) : List CpInfo := es.foldr (fun e r => gap e.1 (e.2 :: r)) (gap last [])
def pool (es : List (Nat × CpInfo)) (last : Nat) : Array CpInfo := ⟨poolList es last⟩
def fileOf (pool : Array CpInfo) (this : Nat) (attrs : Array Attribute := #[]) (ms : Array MethodInfo := #[]) (fl : Nat := 33) (sup : Nat := 0) (ifs : Array Nat := #[]) (fds : Array FieldInfo := #[]) : ClassFile where
  minorVersion := 0
  majorVersion := 65
  constantPool := pool
  accessFlags := fl
  thisClass := this
  superClass := sup
  interfaces := ifs
  fields := fds
  methods := ms
  attributes := attrs
def plain (name : String) (sup : Option ClassId) : Class where
  name := name
  kind := .ordinary
  loader := none
  accessFlags := 33
  super := sup
  interfaces := #[]
  cf := none
  fields := #[]
  methods := #[]
  instanceTypes := #[]
  staticTypes := #[]
  resolved := #[]
  callSites := []
  init := .initialized
  statics := none
  mirror := none

def pool0 : Array CpInfo := pool [(5, u "<init>"), (0, u "()V"), (1, .class_ 10), (1, u "java/lang/Object")] 113

def k0m0 : Method := { name := "<init>", desc := "()V", sig := { parameters := [], returnType := none }, accessFlags := 1, code := none }
/-- java/lang/Object -/
def k0 : Class := { plain "java/lang/Object" none with
  accessFlags := 33
  interfaces := #[]
  cf := some (fileOf pool0 8 #[] #[{ accessFlags := 1, nameIndex := 5, descriptorIndex := 6, attributes := #[] }] 33 0 #[] #[])
  fields := #[]
  methods := #[k0m0]
  instanceTypes := #[]
  staticTypes := #[]
  resolved := Array.replicate 124 none
  statics := none }

def pool1 : Array CpInfo := pool [(2, .class_ 4), (1, u "java/lang/Object"), (0, u "<init>"), (0, u "()V"), (0, .integer 2147483647), (0, .integer 2097152), (0, .integer 268435456), (0, .methodref 11 12), (0, .class_ 13), (0, .nameAndType 14 15), (0, u "com/example/degree/degree/index/Varint"), (0, u "put"), (0, u "([BII)I"), (0, .methodref 17 18), (0, .class_ 19), (0, .nameAndType 20 21), (0, u "com/example/degree/degree/index/VarintPutPinLaw"), (0, u "ok"), (0, u "([BIIIIB)Z"), (2, u "law"), (0, u "(IIII)Z")] 5

def k1m0 : Method := { name := "<init>", desc := "()V", sig := { parameters := [], returnType := none }, accessFlags := 1, code := none }
def k1c1 : Code := { maxStack := 6, maxLocals := 10, code := code, exceptionTable := #[], attributes := #[] }
def k1m1 : Method := { name := "law", desc := "(IIII)Z", sig := { parameters := [.int, .int, .int, .int], returnType := some .boolean }, accessFlags := 9, code := some k1c1 }
def k1c2 : Code := { maxStack := 3, maxLocals := 9, code := method_3_code, exceptionTable := #[], attributes := #[] }
def k1m2 : Method := { name := "ok", desc := "([BIIIIB)Z", sig := { parameters := [(.array .byte), .int, .int, .int, .int, .byte], returnType := some .boolean }, accessFlags := 10, code := some k1c2 }
/-- com/example/degree/degree/index/VarintPutPinLaw -/
def k1 : Class := { plain "com/example/degree/degree/index/VarintPutPinLaw" (some 0) with
  accessFlags := 49
  interfaces := #[]
  cf := some (fileOf pool1 17 #[] #[{ accessFlags := 1, nameIndex := 5, descriptorIndex := 6, attributes := #[] }, { accessFlags := 9, nameIndex := 24, descriptorIndex := 25, attributes := #[] }, { accessFlags := 10, nameIndex := 20, descriptorIndex := 21, attributes := #[] }] 49 2 #[] #[])
  fields := #[]
  methods := #[k1m0, k1m1, k1m2]
  instanceTypes := #[]
  staticTypes := #[]
  resolved := Array.replicate 31 none
  statics := none }

def pool2 : Array CpInfo := pool [(2, .class_ 4), (1, u "java/lang/Object"), (0, u "<init>"), (0, u "()V"), (13, .class_ 21), (0, u "com/example/degree/degree/index/Varint"), (0, u "MAX_BYTES"), (0, u "I"), (4, u "put"), (0, u "([BII)I")] 4

def k2m0 : Method := { name := "<init>", desc := "()V", sig := { parameters := [], returnType := none }, accessFlags := 2, code := none }
def k2c1 : Code := { maxStack := 4, maxLocals := 5, code := prog_18_method_2_code, exceptionTable := #[], attributes := #[] }
def k2m1 : Method := { name := "put", desc := "([BII)I", sig := { parameters := [(.array .byte), .int, .int], returnType := some .int }, accessFlags := 8, code := some k2c1 }
/-- com/example/degree/degree/index/Varint -/
def k2 : Class := { plain "com/example/degree/degree/index/Varint" (some 0) with
  accessFlags := 48
  interfaces := #[]
  cf := some (fileOf pool2 20 #[] #[{ accessFlags := 2, nameIndex := 5, descriptorIndex := 6, attributes := #[] }, { accessFlags := 8, nameIndex := 28, descriptorIndex := 29, attributes := #[] }] 48 2 #[] #[{ accessFlags := 24, nameIndex := 22, descriptorIndex := 23, attributes := #[] }])
  fields := #[{ name := "MAX_BYTES", type := .int, accessFlags := 24, slot := 0, constantValue := 0 }]
  methods := #[k2m0, k2m1]
  instanceTypes := #[]
  staticTypes := #[.int]
  resolved := Array.replicate 34 none
  statics := none }

def pool3 : Array CpInfo := pool [(1, u "java/lang/Cloneable"), (0, .class_ 1), (0, u "java/lang/Object"), (0, .class_ 3)] 3

/-- java/lang/Cloneable -/
def k3 : Class := { plain "java/lang/Cloneable" (some 0) with
  accessFlags := 1537
  interfaces := #[]
  cf := some (fileOf pool3 2 #[] #[] 1537 4 #[] #[])
  fields := #[]
  methods := #[]
  instanceTypes := #[]
  staticTypes := #[]
  resolved := Array.replicate 8 none
  statics := none }

def pool4 : Array CpInfo := pool [(1, u "java/io/Serializable"), (0, .class_ 1), (0, u "java/lang/Object"), (0, .class_ 3)] 3

/-- java/io/Serializable -/
def k4 : Class := { plain "java/io/Serializable" (some 0) with
  accessFlags := 1537
  interfaces := #[]
  cf := some (fileOf pool4 2 #[] #[] 1537 4 #[] #[])
  fields := #[]
  methods := #[]
  instanceTypes := #[]
  staticTypes := #[]
  resolved := Array.replicate 8 none
  statics := none }

/-- the primitive byte -/
def k5 : Class := { plain "byte" none with kind := .primitive 'B', accessFlags := 0x411 }
/-- [B -/
def k6 : Class := { plain "[B" (some 0) with kind := .array 5 .byte, interfaces := #[3, 4], accessFlags := 1041 }

/-- the primitive int -/
def k7 : Class := { plain "int" none with kind := .primitive 'I', accessFlags := 0x411 }
/-- [I -/
def k8 : Class := { plain "[I" (some 0) with kind := .array 7 .int, interfaces := #[3, 4], accessFlags := 1041 }

def heap : Heap := #[]
def classes : Array Class := #[k0, k1, k2, k3, k4, k5, k6, k7, k8]
def interned : List (Array UInt16 × Addr) := []
def slotsUsed : Nat := 0
def theMethod : MethodId := ⟨1, 1⟩
def args0 : Array Value := #[.int 1, .int 2, .int 3, .int 4]
def aboutOver (below : List Frame) : State where
  vm := { classes := classes, interned := interned.toArray }
  heap := heap
  slotsUsed := slotsUsed
  threads := #[{ frames := .invoking theMethod args0 :: below }]
def below0 : List Frame := [.native { method := ⟨0, 0⟩, args := #[] }]
def about1 : State := aboutOver below0
def p0 : Program := .bare "" "" ""
def e0 : Env := launch0.env 0 0 0
theorem w_frames : about1.frames = Frame.invoking theMethod args0 :: below0 := rfl
set_option maxRecDepth 65536 in
theorem w_args : argsFit about1.vm theMethod args0 = true := by decide +kernel
set_option maxRecDepth 65536 in
theorem w_heap : heapFits about1 = true := by decide +kernel
set_option maxRecDepth 65536 in
theorem w_runnable : about1.curStatus? = some .runnable := by decide +kernel
set_option maxRecDepth 65536 in
theorem w_alone : about1.alone = true := by decide +kernel
set_option maxRecDepth 65536 in
theorem w_named : about1.methodNamed? x = some theMethod := by decide +kernel
set_option maxRecDepth 65536 in
theorem w_hears : about1.hears theMethod below0 = true := by decide +kernel
set_option maxRecDepth 65536 in
theorem w_ripe : about1.ripe theMethod args0 below0 = true := by decide +kernel
theorem w_running : about1.status = .running := rfl
set_option maxRecDepth 65536 in
theorem w_room : about1.hasRoom e0.platform room_1 = true :=
  launch0.hasRoom_least _ room_1 (by decide +kernel) (by decide +kernel) (by decide +kernel) (by decide +kernel) (by decide +kernel) (by decide +kernel)
theorem allAtoms_all (ts : List Jvm.Cond) (a : Array Jvm.Value) (st : Jvm.State) : (allAtoms ts).before a st = ts.all (fun c => c.before a st) := by
  induction ts with
  | nil => rfl
  | cons c t ih =>
    show (Jvm.Cond.and c (allAtoms t)).before a st = _
    rw [Jvm.Cond.before_and, ih, List.all_cons]
def words1 : List Jvm.Cond := Jvm.Cond.code x code maxLocals ret :: tables_1
/-- a 'code' word, met by the world's own term for the bytes: nothing is compared byte by byte -/
theorem code_word {y : MethodName} {bytes : ByteArray} {mx : Nat} {rt : Option FieldType} {a : Array Value} {s : State} {m : MethodId} {meth : Method} {c : Code} (h1 : s.methodNamed? y = some m) (h2 : s.vm.method? m = some meth) (h3 : meth.code = some c) (h4 : c.code = bytes)
    (h5 : (c.maxLocals == mx && c.exceptionTable.isEmpty && decide (c.maxStack ≤ mostOperands) && decide (meth.sig.returnType = rt) && !meth.locks && decide (parseMethodDescriptor y.desc = some meth.sig)) = true) : (Jvm.Cond.code y bytes mx rt).before a s = true := by
  simp only [Bool.and_eq_true, beq_iff_eq, Bool.not_eq_true', decide_eq_true_eq] at h5
  obtain ⟨⟨⟨⟨⟨g1, g2⟩, g3⟩, g4⟩, g5⟩, g6⟩ := h5
  simp [Cond.before, Cond.holds, Cond.value, h1, h2, h3, h4, g1, g2, g3, g4, g5, g6]
def isCode : Jvm.Cond → Bool
  | .code _ _ _ _ => true
  | _ => false
theorem all_split {L : List Jvm.Cond} {P : Jvm.Cond → Bool} (h1 : L.all (fun c => isCode c || P c) = true) (h2 : ∀ c ∈ L.filter isCode, P c = true) : L.all P = true := by
  refine List.all_eq_true.mpr fun c hc => ?_
  have h := List.all_eq_true.mp h1 c hc
  rcases Bool.eq_false_or_eq_true (isCode c) with hi | hi
  · exact h2 c (List.mem_filter.mpr ⟨hc, hi⟩)
  · simpa [hi] using h
set_option maxRecDepth 65536 in
theorem w_c0 : (Jvm.Cond.code x code maxLocals ret).before args0 about1 = true := code_word (m := ⟨1, 1⟩) (meth := k1m1) (c := k1c1) (by decide +kernel) rfl rfl rfl (by decide +kernel)
set_option maxRecDepth 65536 in
theorem w_c1 : (Jvm.Cond.code ({ cls := "com/example/degree/degree/index/Varint", name := "put", desc := "([BII)I" } : Jvm.MethodName) prog_18_method_2_code (5 : Nat) (Option.some Jvm.ClassFile.FieldType.int)).before args0 about1 = true := code_word (m := ⟨2, 1⟩) (meth := k2m1) (c := k2c1) (by decide +kernel) rfl rfl rfl (by decide +kernel)
set_option maxRecDepth 65536 in
theorem w_c2 : (Jvm.Cond.code ({ cls := "com/example/degree/degree/index/VarintPutPinLaw", name := "ok", desc := "([BIIIIB)Z" } : Jvm.MethodName) method_3_code (9 : Nat) (Option.some Jvm.ClassFile.FieldType.boolean)).before args0 about1 = true := code_word (m := ⟨1, 2⟩) (meth := k1m2) (c := k1c2) (by decide +kernel) rfl rfl rfl (by decide +kernel)
def codes1 : List Jvm.Cond := [Jvm.Cond.code x code maxLocals ret, Jvm.Cond.code ({ cls := "com/example/degree/degree/index/Varint", name := "put", desc := "([BII)I" } : Jvm.MethodName) prog_18_method_2_code (5 : Nat) (Option.some Jvm.ClassFile.FieldType.int), Jvm.Cond.code ({ cls := "com/example/degree/degree/index/VarintPutPinLaw", name := "ok", desc := "([BIIIIB)Z" } : Jvm.MethodName) method_3_code (9 : Nat) (Option.some Jvm.ClassFile.FieldType.boolean)]
set_option maxRecDepth 65536 in
theorem codes_eq : words1.filter isCode = codes1 := rfl
theorem w_codes : ∀ c ∈ words1.filter isCode, c.before args0 about1 = true := by
  rw [codes_eq]
  intro c hc
  simp only [codes1, List.mem_cons, List.not_mem_nil, or_false] at hc
  rcases hc with rfl | rfl | rfl
  · exact w_c0
  · exact w_c1
  · exact w_c2
set_option maxRecDepth 65536 in
theorem w_t1 : words1.all (fun c => isCode c || c.before args0 about1) = true := by decide +kernel
theorem w_tables : (allAtoms (Jvm.Cond.code x code maxLocals ret :: tables_1)).before args0 about1 = true := by
  rw [allAtoms_all]
  show words1.all (fun c => c.before args0 about1) = true
  refine all_split ?_ w_codes
  rw [w_t1]
set_option maxRecDepth 65536 in
theorem w_case : (Jvm.Cond.and given_1 narrow_1).before args0 about1 = true := by decide +kernel
theorem w_applies : (headSpec (Jvm.Cond.code x code maxLocals ret :: tables_1) room_1).applies x e0.platform about1 = true :=
  (Spec.applies_iff w_frames).mpr ⟨w_running, w_runnable, w_alone, w_named, w_hears, w_ripe, w_room, w_tables⟩
theorem atStart : AtStart classFile x code maxLocals ret World_1 tables_1 room_1 Calls_1 rest_1 Pre_1 launch0 p0 e0 about1 theMethod args0 below0 :=
  ⟨lists_1, trivial, launch0.admits_env _ _ _, launch0.least_env, fairChoices_fair.cas, fairChoices_fair.clock, w_frames, w_args, w_heap, w_applies, trivial, trivial, w_case⟩
end start1
theorem witness_1 : WitnessClaimed_1 := ⟨start1.p0, start1.e0, start1.about1, start1.theMethod, start1.args0, start1.below0, start1.atStart⟩
end Jvm.Pilot.@@N@@
