import JvmDerived
import JvmDerived.Pilot.@@N@@Statement
import JvmDerived.Pilot.@@N@@Code
set_option linter.unusedVariables false
set_option linter.unusedSimpArgs false
namespace Jvm.RoadKit
open Sem ClassFile Op Lib Jvm.Stand Jvm.Free Jvm.LawKit
section New
variable {p : Program} {l : Launch} {e : Env} {R : Room} {s : State} {m : MethodId} {args : Array Value} {below : List Frame} {meth : Method} {c : Code} {T : State} {locs : List Loc} {cells slots : Nat}
theorem retI (X : Stand p l e R s m args below meth c T locs cells slots) (hx : p.tables.exec = Jvm.exec) {pc : Nat} {Ls : Array Slot} {z : Int32} {rest : List Value} (hret : meth.sig.returnType = some .int) (hd : decode c.code pc = .ok (.ireturn, 1)) {fs : List Frame}
    (hl : ∀ (f : JFrame) (acts : List Action), f.method = m → f.locked = none → f.entered = [] → (doReturn e (T.setTop f) acts (some (.int z))).1 = T.setFrames fs) : Steps p.tables e below (T.setTop (mkF m pc Ls (.int z :: rest))) (T.setFrames fs) := by
  have hm' : T.vm.method? m = some meth := X.method'
  have hn : narrow .int (.int z) = .int z := rfl
  show Steps p.tables e below (T.setTop { method := m, pc := pc, locals := Ls, stack := _ :: rest, locked := none }) _
  jvm_step X.here [X.here.top, hx, hd, hm', hret, hn]
  first | (intro acts; rw [hl _ acts rfl rfl rfl]) | rw [hl _ _ rfl rfl rfl]
  exact Steps.refl _
end New
end Jvm.RoadKit
namespace Jvm.Pilot.@@N@@
open Jvm Jvm.ClassFile Sem Op Lib Jvm.Free Jvm.Stand Jvm.LawKit Jvm.RoadKit Bundle Jvm.Pilot.@@N@@.Jvm.D
theorem hq {a0 : Array Value} {Z : State} (hw : ∀ d ∈ tables_1, d.before a0 Z = true) (i : Nat) {d : Jvm.Cond} (h : tables_1[i]? = some d) : d.before a0 Z = true := hw _ (List.mem_of_getElem? h)
section
open Jvm.FP.Core
def own_w (k : Nat) : Nat := 2 ^ k
theorem own_wp (k : Nat) : 0 < own_w k := Nat.two_pow_pos k
theorem own_wa (a b : Nat) : own_w (a + b) = own_w a * own_w b := Nat.pow_add 2 a b
theorem own_wd (k : Nat) : 2 ^ k = own_w k := rfl
theorem own_wle {a b : Nat} (h : a ≤ b) : own_w a ≤ own_w b := Nat.pow_le_pow_right (by decide) h
theorem own_wlt {a b : Nat} (h : a < b) : own_w a < own_w b := Nat.pow_lt_pow_right (by decide) h
theorem own_iu0 (c : Nat) (q : Int) (k : Nat) (h : (q + 2200).toNat = k) : inUnits c q (-2200) = c * own_w k := by
  unfold inUnits
  rw [Int.sub_neg, h, own_wd]
def own_Rep (C : Nat) : Prop := ∃ (c : Nat) (q : Int), c < 2 ^ 53 ∧ -1074 ≤ q ∧ C = inUnits c q (-2200)
def own_Best (A B X : Nat) : Prop := ∀ C, own_Rep C → ((A : Int) - (X : Int) * (B : Int)).natAbs ≤ ((A : Int) - (C : Int) * (B : Int)).natAbs
def own_Val (a : UInt64) (V : Int) : Prop := ∃ s c q, val64 a = .fin s c q ∧ signed s (inUnits c q (-2200)) = V
def own_Bd (a : UInt64) (k : Nat) : Prop := ∃ V : Int, own_Val a V ∧ V.natAbs ≤ own_w k
theorem own_nn {a : UInt64} {V : Int} (h : own_Val a V) : Jvm.Free.Fl.NoNaN64 a := by
  obtain ⟨s, c, q, h1, _⟩ := h
  refine Jvm.Free.Fl.noNaN64_no.mpr ((notNaN_iff a).mpr ?_)
  rw [h1]; exact Datum.noConfusion
theorem own_bn {a : UInt64} {k : Nat} (h : own_Bd a k) : Jvm.Free.Fl.NoNaN64 a := by
  obtain ⟨V, h1, _⟩ := h; exact own_nn h1
theorem own_ne {a : UInt64} {V : Int} (h : own_Val a V) : val64 a ≠ .nan := by
  obtain ⟨s, c, q, h1, _⟩ := h
  rw [h1]; exact Datum.noConfusion
theorem own_bm {a : UInt64} {k : Nat} (h : own_Bd a k) {l : Nat} (hl : k ≤ l) : own_Bd a l := by
  obtain ⟨V, h1, h2⟩ := h; exact ⟨V, h1, Nat.le_trans h2 (own_wle hl)⟩
theorem own_qm : b64.qmin = -1074 := qmin_b64
theorem own_qx : b64.qmax = 971 := by decide
theorem own_rr {s : Bool} {A B : Nat} {e : Int} (hB : 0 < B) (he : -2200 ≤ e) (hs : inUnits A e (-2200) < own_w 3150 * B) :
    ∃ c q, roundRatio b64 s A B e = .fin s c q ∧ own_Best (inUnits A e (-2200)) B (inUnits c q (-2200)) := by
  rcases roundRatio_cases b64 s A B e with ⟨c, q, h⟩ | h
  · refine ⟨c, q, h, ?_⟩
    rintro C ⟨c', q', h1, h2, rfl⟩
    exact roundRatio_nearest good_b64 hB h h1 (by rw [own_qm]; exact h2) (by rw [own_qm]; decide) he
  · rw [roundRatio_inf good_b64 (e0 := -2200) hB (by rw [own_qm]; decide) he, own_qx] at h
    exfalso
    have h1 : own_w 3150 ≤ (2 ^ (b64.p + 1) - 1) * 2 ^ ((971 : Int) - 1 - -2200).toNat := by
      rw [show ((971 : Int) - 1 - -2200).toNat = 3150 + 20 from rfl]
      rw [own_wd (3150 + 20), own_wa, Nat.mul_comm, Nat.mul_assoc]
      refine Nat.le_mul_of_pos_right _ (Nat.mul_pos (own_wp _) ?_)
      decide
    have h2 := Nat.mul_le_mul_right B h1
    exact Nat.lt_irrefl _ (Nat.lt_of_lt_of_le hs (Nat.le_trans h2 h))
theorem own_rng {a : UInt64} {s : Bool} {c : Nat} {q : Int} (h : val64 a = .fin s c q) : c < 2 ^ 53 ∧ -1074 ≤ q ∧ q ≤ 971 := by
  have := val64_fits a
  rw [h] at this
  have h2 := this.2.1
  have h3 := this.2.2.1
  rw [own_qm] at h2; rw [own_qx] at h3; exact ⟨this.1, h2, h3⟩
theorem own_vrep {a : UInt64} {V : Int} (h : own_Val a V) : own_Rep V.natAbs := by
  obtain ⟨s, c, q, h1, h2⟩ := h
  have := own_rng h1
  exact ⟨c, q, this.1, this.2.1, by rw [← h2, natAbs_signed]⟩
theorem own_rep (c k : Nat) (hc : c ≤ 9007199254740992) (hk : 1126 ≤ k) : own_Rep (c * own_w k) := by
  by_cases h : c < 9007199254740992
  · exact ⟨c, (k : Int) - 2200, by rw [← Jvm.RoadKit.pow_53]; exact h, by omega, (own_iu0 c _ k (by omega)).symm⟩
  · refine ⟨1, (k : Int) + 53 - 2200, by decide, by omega, ?_⟩
    rw [own_iu0 1 _ (53 + k) (by omega), own_wa, Nat.one_mul, show own_w 53 = 9007199254740992 by rw [← own_wd], show c = 9007199254740992 by omega]
theorem own_repw (k : Nat) (hk : 1126 ≤ k) : own_Rep (own_w k) := by
  have := own_rep 1 k (by decide) hk
  rw [Nat.one_mul] at this; exact this
theorem own_ord {a b : UInt64} {V W : Int} (ha : own_Val a V) (hb : own_Val b W) : dcmp a b = some (compare V W) := by
  obtain ⟨s, c, q, h1, h2⟩ := ha
  obtain ⟨t, d, r, h3, h4⟩ := hb
  have q1 := (own_rng h1).2.1
  have q2 := (own_rng h3).2.1
  show order (val64 a) (val64 b) = _
  rw [h1, h3, ← h2, ← h4]
  simp only [order]
  rw [inUnits_move c (r := min q r) (e := -2200) (by omega) (by omega), inUnits_move d (r := min q r) (e := -2200) (by omega) (by omega), signed_mul, signed_mul]
  have p1 : (0 : Int) < ((2 ^ (min q r - -2200).toNat : Nat) : Int) := by have := Nat.two_pow_pos (min q r - -2200).toNat; omega
  rw [compare_mul_pos _ _ _ p1]
theorem own_eq0 {a b : UInt64} {V : Int} (ha : own_Val a V) (hb : own_Val b V) (o : ClassFile.CmpOp) : Op.cmpValue (FP.dcmp a b) o = 0 := by
  rw [show FP.dcmp a b = some (compare V V) from own_ord ha hb, compare_self_int]; rfl
theorem own_neg {a : UInt64} {V : Int} (ha : own_Val a V) : own_Val (FP.dneg a) (-V) := by
  obtain ⟨s, c, q, h1, h2⟩ := ha
  refine ⟨!s, c, q, by rw [FP.val64_dneg, h1]; rfl, ?_⟩
  rw [← h2]; unfold signed; cases s <;> simp
theorem own_negc {a : UInt64} {V : Int} (ha : own_Val a V) : own_Val (dneg a) (-V) := by
  obtain ⟨s, c, q, h1, h2⟩ := ha
  refine ⟨!s, c, q, by rw [val64_dneg, h1]; rfl, ?_⟩
  rw [← h2]; unfold signed; cases s <;> simp
theorem own_ssm (s t : Bool) (v k : Int) (hk : 0 < k) : sumSign s t (v * k) = sumSign s t v := by
  unfold sumSign
  have h1 : v * k = 0 ↔ v = 0 := by rw [Int.mul_eq_zero]; omega
  have h2 : v * k < 0 ↔ v < 0 := by
    have := Int.mul_lt_mul_right (b := v) (c := 0) hk
    rw [Int.zero_mul] at this; exact this
  simp only [h1, h2]
theorem own_add {a b : UInt64} {V W : Int} (ha : own_Val a V) (hb : own_Val b W) (hl : (V + W).natAbs < own_w 3150) :
    ∃ s t M, own_Val (dadd a b) (signed (sumSign s t (V + W)) M) ∧ own_Best (V + W).natAbs 1 M := by
  obtain ⟨s, c, q, h1, h2⟩ := ha
  obtain ⟨t, d, p, h3, h4⟩ := hb
  have q1 := (own_rng h1).2.1
  have q2 := (own_rng h3).2.1
  have pk : (0 : Int) < ((2 ^ (min q p - -2200).toNat : Nat) : Int) := by have := Nat.two_pow_pos (min q p - -2200).toNat; omega
  have e0 : V + W = sumUnits s c q t d p (min q p) * ((2 ^ (min q p - -2200).toNat : Nat) : Int) := by
    rw [← h2, ← h4, inUnits_move c (r := min q p) (e := -2200) (by omega) (by omega), inUnits_move d (r := min q p) (e := -2200) (by omega) (by omega)]
    unfold sumUnits
    rw [signed_mul, signed_mul, Int.add_mul]
  have e : inUnits (sumUnits s c q t d p (min q p)).natAbs (min q p) (-2200) = (V + W).natAbs := by
    rw [e0, Int.natAbs_mul, Int.natAbs_natCast]; rfl
  obtain ⟨c', q', h5, h6⟩ := own_rr (s := sumSign s t (sumUnits s c q t d p (min q p))) (A := (sumUnits s c q t d p (min q p)).natAbs) (B := 1) (e := min q p) (by decide) (by omega) (by rw [e, Nat.mul_one]; exact hl)
  refine ⟨s, t, inUnits c' q' (-2200), ⟨sumSign s t (sumUnits s c q t d p (min q p)), c', q', ?_, ?_⟩, e ▸ h6⟩
  · rw [val64_dadd, h1, h3]
    exact h5
  · rw [e0, own_ssm _ _ _ _ pk]
theorem own_addx {a b : UInt64} {V W : Int} (ha : own_Val a V) (hb : own_Val b W) (hl : (V + W).natAbs < own_w 3150) (hr : own_Rep (V + W).natAbs) : own_Val (dadd a b) (V + W) := by
  obtain ⟨s, t, M, h1, h2⟩ := own_add ha hb hl
  have h3 := h2 _ hr
  have h4 : M = (V + W).natAbs := by omega
  rw [h4, signed_sumSign] at h1
  exact h1
theorem own_badd {a b : UInt64} {k : Nat} (ha : own_Bd a k) (hb : own_Bd b k) (h1 : 1126 ≤ k) (h2 : k + 1 < 3150) : own_Bd (dadd a b) (k + 1) := by
  obtain ⟨V, ha, hV⟩ := ha
  obtain ⟨W, hb, hW⟩ := hb
  have e : own_w (k + 1) = own_w k * 2 := by rw [own_wa, show own_w 1 = 2 by rw [← own_wd]]
  have l : (V + W).natAbs ≤ own_w (k + 1) := by rw [e]; omega
  obtain ⟨s, t, M, h3, h4⟩ := own_add ha hb (Nat.lt_of_le_of_lt l (own_wlt h2))
  refine ⟨_, h3, ?_⟩
  rw [natAbs_signed]
  have h5 := h4 _ (own_repw (k + 1) (by omega))
  omega
theorem own_bneg {a : UInt64} {k : Nat} (ha : own_Bd a k) : own_Bd (dneg a) k := by
  obtain ⟨V, ha, hV⟩ := ha
  exact ⟨-V, own_negc ha, by omega⟩
theorem own_bnegF {a : UInt64} {k : Nat} (ha : own_Bd a k) : own_Bd (FP.dneg a) k := by
  obtain ⟨V, ha, hV⟩ := ha
  exact ⟨-V, own_neg ha, by omega⟩
theorem own_bsub {a b : UInt64} {k : Nat} (ha : own_Bd a k) (hb : own_Bd b k) (h1 : 1126 ≤ k) (h2 : k + 1 < 3150) : own_Bd (dsub a b) (k + 1) := by
  rw [dsub_eq]; exact own_badd ha (own_bneg hb) h1 h2
theorem own_subx {a b : UInt64} {V W : Int} (ha : own_Val a V) (hb : own_Val b W) (hl : (V - W).natAbs < own_w 3150) (hr : own_Rep (V - W).natAbs) : own_Val (dsub a b) (V - W) := by
  rw [dsub_eq, Int.sub_eq_add_neg]; exact own_addx ha (own_negc hb) (by rw [← Int.sub_eq_add_neg]; exact hl) (by rw [← Int.sub_eq_add_neg]; exact hr)
theorem own_pu {c d : Nat} {q p : Int} (q1 : -1074 ≤ q) (q2 : -1074 ≤ p) : inUnits (c * d) (q + p) (-2200) * own_w 2200 = inUnits c q (-2200) * inUnits d p (-2200) := by
  unfold inUnits
  simp only [own_wd]
  rw [Nat.mul_assoc, ← own_wa, show (q + p - -2200).toNat + 2200 = (q - -2200).toNat + (p - -2200).toNat by omega, own_wa]
  ac_rfl
theorem own_bmul {a b : UInt64} {k l : Nat} (ha : own_Bd a k) (hb : own_Bd b l) (j : Nat) (hj : j + 2200 = k + l) (h1 : 1126 ≤ j) (h2 : j < 3150) : own_Bd (dmul a b) j := by
  obtain ⟨V, ⟨s, c, q, a1, a2⟩, hV⟩ := ha
  obtain ⟨W, ⟨t, d, p, b1, b2⟩, hW⟩ := hb
  have q1 := (own_rng a1).2.1
  have q2 := (own_rng b1).2.1
  rw [← a2, natAbs_signed] at hV
  rw [← b2, natAbs_signed] at hW
  have e := own_pu (c := c) (d := d) q1 q2
  have l1 : inUnits (c * d) (q + p) (-2200) * own_w 2200 ≤ own_w j * own_w 2200 := by
    rw [e, ← own_wa, hj, own_wa]; exact Nat.mul_le_mul hV hW
  have l2 := Nat.le_of_mul_le_mul_right l1 (own_wp _)
  obtain ⟨c', q', h5, h6⟩ := own_rr (s := s != t) (A := c * d) (B := 1) (e := q + p) (by decide) (by omega) (by rw [Nat.mul_one]; exact Nat.lt_of_le_of_lt l2 (own_wlt h2))
  refine ⟨_, ⟨s != t, c', q', by rw [val64_dmul, a1, b1]; exact h5, rfl⟩, ?_⟩
  rw [natAbs_signed]
  have h7 := h6 _ (own_repw j h1)
  omega
theorem own_iz {c : Nat} {q : Int} {s : Bool} (h : signed s (inUnits c q (-2200)) = 0) : c = 0 := by
  rw [signed_eq_zero] at h
  unfold inUnits at h
  rcases Nat.mul_eq_zero.mp h with h | h
  · exact h
  · exact absurd h (Nat.pos_iff_ne_zero.mp (Nat.two_pow_pos _))
theorem own_rz (s : Bool) (q : Int) : ∃ c' q', roundRatio b64 s 0 1 q = .fin s c' q' ∧ signed s (inUnits c' q' (-2200)) = 0 :=
  ⟨0, b64.qmin, rfl, by unfold inUnits; rw [Nat.zero_mul, signed_zero]⟩
theorem own_mz {a b : UInt64} {W : Int} (ha : own_Val a 0) (hb : own_Val b W) : own_Val (dmul a b) 0 := by
  obtain ⟨s, c, q, a1, a2⟩ := ha
  obtain ⟨t, d, p, b1, b2⟩ := hb
  obtain rfl := own_iz a2
  obtain ⟨c', q', h1, h2⟩ := own_rz (s != t) (q + p)
  refine ⟨s != t, c', q', ?_, h2⟩
  rw [val64_dmul, a1, b1]
  show roundRatio b64 (s != t) (0 * d) 1 (q + p) = _
  rw [Nat.zero_mul]; exact h1
theorem own_mzr {a b : UInt64} {W : Int} (hb : own_Val b W) (ha : own_Val a 0) : own_Val (dmul b a) 0 := by rw [dmul_comm]; exact own_mz ha hb
theorem own_anti {a b : UInt64} {A B V : Int} (ha : own_Val a A) (hb : own_Val b B) (h : own_Val (dsub a b) V) : own_Val (dsub b a) (-V) := by
  obtain ⟨s, c, q, a1, -⟩ := ha
  obtain ⟨t, d, p, b1, -⟩ := hb
  obtain ⟨σ, c', q', v1, v2⟩ := h
  rw [val64_dsub, a1, b1] at v1
  have v1 : roundRatio b64 (sumSign s (!t) (sumUnits s c q (!t) d p (min q p))) (sumUnits s c q (!t) d p (min q p)).natAbs 1 (min q p) = .fin σ c' q' := v1
  have e : sumUnits t d p (!s) c q (min p q) = -sumUnits s c q (!t) d p (min q p) := by
    rw [Int.min_comm p q]
    unfold sumUnits signed
    cases s <;> cases t <;> simp <;> omega
  have g : val64 (dsub b a) = roundRatio b64 (sumSign t (!s) (sumUnits t d p (!s) c q (min p q))) (sumUnits t d p (!s) c q (min p q)).natAbs 1 (min p q) := by
    rw [val64_dsub, a1, b1]; rfl
  rw [e, Int.natAbs_neg, Int.min_comm p q] at g
  generalize sumUnits s c q (!t) d p (min q p) = v at v1 g
  by_cases hv : v = 0
  · subst hv
    obtain ⟨c2, q2, z1, z2⟩ := own_rz (sumSign t (!s) (-0)) (min q p)
    obtain ⟨c3, q3, z3, z4⟩ := own_rz (sumSign s (!t) 0) (min q p)
    cases z3.symm.trans v1
    refine ⟨_, c2, q2, g.trans z1, ?_⟩
    rw [z2, ← v2, z4]; rfl
  · have e2 : sumSign t (!s) (-v) = !(sumSign s (!t) v) := by
      unfold sumSign
      rw [if_neg hv, if_neg (by omega)]
      by_cases h0 : v < 0
      · rw [decide_eq_true h0, decide_eq_false (by omega)]; rfl
      · rw [decide_eq_false h0, decide_eq_true (by omega)]; rfl
    rw [e2, ← negate_roundRatio, v1] at g
    refine ⟨!σ, c', q', g, ?_⟩
    rw [← v2]; unfold signed; cases σ <;> simp
theorem own_qu {a b : UInt64} {V W : Int} (ha : own_Val a V) (hb : own_Val b W) (hW : ((own_w 2200 : Nat) : Int) ≤ W) (C : Nat) (hC : V.natAbs * own_w 2200 ≤ C * W.natAbs) (hC2 : C < own_w 3150) :
    ∃ (s : Bool) (A B M : Nat), own_Val (ddiv a b) (signed s M) ∧ 0 < B ∧ A ≤ C * B ∧ own_Best A B M ∧ (0 < V → s = false) ∧ (V.natAbs * own_w 2200 = C * W.natAbs → A = C * B) := by
  obtain ⟨s, c, q, a1, a2⟩ := ha
  obtain ⟨t, d, p, b1, b2⟩ := hb
  have hq := own_rng a1
  have hp := own_rng b1
  have w0 := own_wp 2200
  have hd : d ≠ 0 := fun z => by
    subst z
    unfold inUnits at b2
    rw [Nat.zero_mul, signed_zero] at b2
    omega
  have nv : V.natAbs = inUnits c q (-2200) := by rw [← a2, natAbs_signed]
  have nw : W.natAbs = inUnits d p (-2200) := by rw [← b2, natAbs_signed]
  have e : inUnits c (q - p) (-2200) * 2 ^ (p - -2200).toNat = inUnits c q (-2200) * own_w 2200 := by
    unfold inUnits
    simp only [own_wd]
    rw [Nat.mul_assoc, Nat.mul_assoc, ← own_wa, ← own_wa, show (q - p - -2200).toNat + (p - -2200).toNat = (q - -2200).toNat + 2200 by omega]
  have ew : inUnits d p (-2200) = d * 2 ^ (p - -2200).toNat := rfl
  have hA : inUnits c (q - p) (-2200) ≤ C * d := by
    refine Nat.le_of_mul_le_mul_right ?_ (Nat.two_pow_pos (p - -2200).toNat)
    rw [e, Nat.mul_assoc, ← ew, ← nv, ← nw]; exact hC
  obtain ⟨c', q', h5, h6⟩ := own_rr (s := s != t) (A := c) (B := d) (e := q - p) (by omega) (by omega) (Nat.lt_of_le_of_lt hA (Nat.mul_lt_mul_of_pos_right hC2 (by omega)))
  have ht : t = false := by
    cases t
    · rfl
    · exfalso
      unfold signed at b2
      simp at b2
      omega
  refine ⟨s != t, _, d, _, ⟨s != t, c', q', ?_, rfl⟩, by omega, hA, h6, ?_, ?_⟩
  · rw [val64_ddiv, a1, b1]
    simp only [quotient]
    rw [if_neg hd]; exact h5
  · intro h0
    rw [ht]
    cases s
    · rfl
    · exfalso
      unfold signed at a2
      simp at a2
      omega
  · intro h0
    refine Nat.eq_of_mul_eq_mul_right (Nat.two_pow_pos (p - -2200).toNat) ?_
    rw [e, Nat.mul_assoc, ← ew, ← nv, ← nw]; exact h0
theorem own_bdiv {a b : UInt64} {k : Nat} {W : Int} (ha : own_Bd a k) (hb : own_Val b W) (hW : ((own_w 2200 : Nat) : Int) ≤ W) (h1 : 1126 ≤ k) (h2 : k < 3150) : own_Bd (ddiv a b) k := by
  obtain ⟨V, ha, hV⟩ := ha
  obtain ⟨s, A, B, M, g1, g2, g3, g4, -, -⟩ := own_qu ha hb hW (own_w k) (Nat.mul_le_mul hV (by omega)) (own_wlt h2)
  refine ⟨_, g1, ?_⟩
  rw [natAbs_signed]
  have h3 := g4 _ (own_repw k h1)
  rw [← Int.natCast_mul, ← Int.natCast_mul] at h3
  refine Nat.le_of_mul_le_mul_right (c := B) ?_ g2
  generalize own_w k * B = x at *
  generalize M * B = y at *
  omega
theorem own_qx2 {a b : UInt64} {V W : Int} (ha : own_Val a V) (hV : 0 ≤ V) (hb : own_Val b W) (hW : ((own_w 2200 : Nat) : Int) ≤ W) (C : Nat) (hC : V.natAbs * own_w 2200 = C * W.natAbs) (hC2 : C < own_w 3150) (hr : own_Rep C) : own_Val (ddiv a b) C := by
  obtain ⟨s, A, B, M, g1, g2, g3, g4, g5, g6⟩ := own_qu ha hb hW C (Nat.le_of_eq hC) hC2
  have h3 := g4 _ hr
  rw [← Int.natCast_mul, ← Int.natCast_mul, g6 hC] at h3
  have h4 : M = C := by
    refine Nat.eq_of_mul_eq_mul_right g2 ?_
    generalize C * B = x at *
    generalize M * B = y at *
    omega
  subst h4
  by_cases h0 : 0 < V
  · rw [g5 h0] at g1; exact g1
  · have hv : V = 0 := by omega
    subst hv
    have w0 := own_wp 2200
    have h5 : M = 0 := by
      rw [Int.natAbs_zero, Nat.zero_mul] at hC
      rcases Nat.mul_eq_zero.mp hC.symm with h | h
      · exact h
      · omega
    subst h5
    rw [signed_zero] at g1; exact g1
theorem own_l2d (n : Int64) (h0 : 0 ≤ n.toInt) (h1 : n.toInt ≤ 9007199254740992) : own_Val (l2d n) ((n.toInt.toNat * own_w 2200 : Nat) : Int) := by
  have h2 : DInt n.toInt (l2d n) := l2d_int (by rw [← Jvm.RoadKit.pow_53]; omega)
  obtain ⟨c, q, h3⟩ := l2d_shape n
  rw [show decide (n.toInt < 0) = false from decide_eq_false (by omega)] at h3
  refine ⟨false, c, q, h3, ?_⟩
  unfold DInt at h2
  rw [h3] at h2
  have hq := own_rng h3
  have h4 : ((c * 2 ^ q.toNat : Nat) : Int) = n.toInt * ((2 ^ (-q).toNat : Nat) : Int) := h2
  rw [show n.toInt = (n.toInt.toNat : Int) by omega, ← Int.natCast_mul] at h4
  have h5 := Int.ofNat_inj.mp h4
  show ((inUnits c q (-2200) : Nat) : Int) = _
  have h6 : inUnits c q (-2200) = n.toInt.toNat * own_w 2200 := by
    generalize n.toInt.toNat = k at *
    refine Nat.eq_of_mul_eq_mul_right (own_wp (-q).toNat) ?_
    unfold inUnits
    simp only [own_wd] at h5 ⊢
    rw [Nat.mul_assoc, ← own_wa, show (q - -2200).toNat + (-q).toNat = q.toNat + 2200 by omega, own_wa, ← Nat.mul_assoc, h5]
    generalize own_w 2200 = u
    ac_rfl
  rw [h6]
theorem own_d0 : own_Val FP.dconst0 0 := ⟨false, 0, b64.qmin, val64_dconst0, by unfold inUnits; rw [Nat.zero_mul, signed_zero]⟩
theorem own_d1 : own_Val FP.dconst1 ((own_w 2200 : Nat) : Int) := by
  refine ⟨false, 2 ^ 52, -52, val64_dconst1, ?_⟩
  show ((inUnits (2 ^ 52) (-52) (-2200) : Nat) : Int) = _
  rw [own_iu0 _ _ 2148 rfl, own_wd, ← own_wa]
theorem own_b0 : own_Bd FP.dconst0 2200 := ⟨0, own_d0, by rw [Int.natAbs_zero]; exact Nat.zero_le _⟩
theorem own_b00 : own_Bd 0 2200 := own_b0
theorem own_b1 : own_Bd FP.dconst1 2200 := ⟨_, own_d1, by rw [Int.natAbs_natCast]; exact Nat.le_refl _⟩
theorem own_bC : own_Bd 4728779608772575232 2228 := by
  refine ⟨_, ⟨false, 134217729 * 2 ^ 25, -25, by decide +kernel, rfl⟩, ?_⟩
  rw [natAbs_signed, own_iu0 _ _ 2175 rfl, own_wd, Nat.mul_assoc, ← own_wa 25 2175, show 2228 = 28 + 2200 from rfl, own_wa 28 2200]
  have h : 134217729 ≤ own_w 28 := by rw [← own_wd]; decide
  generalize own_w 2200 = u
  exact Nat.mul_le_mul_right u h
theorem own_v53 : own_Val 4845873199050653696 ((9007199254740992 * own_w 2200 : Nat) : Int) := by
  refine ⟨false, 2 ^ 52, 1, by decide +kernel, ?_⟩
  show ((inUnits (2 ^ 52) 1 (-2200) : Nat) : Int) = _
  rw [own_iu0 _ _ 2201 rfl, own_wd, ← own_wa, show 9007199254740992 = own_w 53 by rw [← own_wd], ← own_wa]
theorem own_wbig {k : Nat} (hk : k < 3150) {x : Int} (h : x.natAbs ≤ own_w k) : x.natAbs < own_w 3150 := Nat.lt_of_le_of_lt h (own_wlt hk)
theorem own_vm (n : Int64) (h0 : 0 ≤ n.toInt) (h1 : n.toInt ≤ 9007199254740992) : own_Val (FP.ddiv (FP.l2d n) 4845873199050653696) ((n.toInt.toNat * own_w 2147 : Nat) : Int) := by
  have e : own_w 2200 = 9007199254740992 * own_w 2147 := by rw [show 9007199254740992 = own_w 53 by rw [← own_wd], ← own_wa]
  have p := own_wp 2200
  refine own_qx2 (own_l2d n h0 h1) (by omega) own_v53 (by omega) _ ?_ ?_ (own_rep _ _ (by omega) (by decide))
  · rw [Int.natAbs_natCast, Int.natAbs_natCast]
    have : n.toInt.toNat * own_w 2147 * (9007199254740992 * own_w 2200) = n.toInt.toNat * (9007199254740992 * own_w 2147) * own_w 2200 := by
      generalize own_w 2200 = u
      generalize own_w 2147 = u'
      ac_rfl
    rw [this, ← e]
  · refine Nat.lt_of_le_of_lt (m := own_w 2200) ?_ (own_wlt (by decide))
    rw [e]; exact Nat.mul_le_mul_right _ (by omega)
theorem own_zr : own_Rep (0 : Int).natAbs := ⟨0, 0, by decide, by decide, by unfold inUnits; rw [Nat.zero_mul]; rfl⟩
theorem own_z3 : (0 : Int).natAbs < own_w 3150 := own_wp _
def own_f6 (a b s : UInt64) : UInt64 := FP.dadd (FP.dsub a (FP.dsub s (FP.dsub s a))) (FP.dsub b (FP.dsub s a))
theorem own_ts {a b s : UInt64} {A B : Int} (ha : own_Val a A) (hb : own_Val b B) (hs : own_Val s (A + B)) (la : A.natAbs < own_w 3150) (lb : B.natAbs < own_w 3150) : own_Val (own_f6 a b s) 0 := by
  have e1 : own_Val (FP.dsub s a) (A + B - A) := own_subx hs ha (by rw [show A + B - A = B by omega]; exact lb) (by rw [show A + B - A = B by omega]; exact own_vrep hb)
  rw [show A + B - A = B by omega] at e1
  have e2 : own_Val (FP.dsub s (FP.dsub s a)) (A + B - B) := own_subx hs e1 (by rw [show A + B - B = A by omega]; exact la) (by rw [show A + B - B = A by omega]; exact own_vrep ha)
  rw [show A + B - B = A by omega] at e2
  have e3 : own_Val (FP.dsub a (FP.dsub s (FP.dsub s a))) (A - A) := own_subx ha e2 (by rw [Int.sub_self]; exact own_z3) (by rw [Int.sub_self]; exact own_zr)
  have e4 : own_Val (FP.dsub b (FP.dsub s a)) (B - B) := own_subx hb e1 (by rw [Int.sub_self]; exact own_z3) (by rw [Int.sub_self]; exact own_zr)
  rw [Int.sub_self] at e3 e4
  exact own_addx e3 e4 own_z3 own_zr
theorem own_add0 {a b : UInt64} {A : Int} (ha : own_Val a A) (hb : own_Val b 0) (la : A.natAbs < own_w 3150) : own_Val (FP.dadd a b) A := by
  have := own_addx ha hb (by rw [Int.add_zero]; exact la) (by rw [Int.add_zero]; exact own_vrep ha)
  rw [Int.add_zero] at this; exact this
theorem own_sub0 {a b : UInt64} {A : Int} (ha : own_Val a A) (hb : own_Val b 0) (la : A.natAbs < own_w 3150) : own_Val (FP.dsub a b) A := by
  have := own_subx ha hb (by rw [Int.sub_zero]; exact la) (by rw [Int.sub_zero]; exact own_vrep ha)
  rw [Int.sub_zero] at this; exact this
def own_hi (a : UInt64) : UInt64 := FP.dsub (FP.dmul 4728779608772575232 a) (FP.dsub (FP.dmul 4728779608772575232 a) a)
def own_f4 (a b p : UInt64) : UInt64 := FP.dadd (FP.dadd (FP.dadd (FP.dsub (FP.dmul (own_hi a) (own_hi b)) p) (FP.dmul (own_hi a) (FP.dsub b (own_hi b)))) (FP.dmul (FP.dsub a (own_hi a)) (own_hi b))) (FP.dmul (FP.dsub a (own_hi a)) (FP.dsub b (own_hi b)))
theorem own_hi1 : own_hi FP.dconst1 = FP.dconst1 := by decide +kernel
theorem own_lo1 : FP.dsub FP.dconst1 FP.dconst1 = FP.dconst0 := by decide +kernel
theorem own_1m {b : UInt64} {B : Int} (hb : own_Val b B) : FP.dmul FP.dconst1 b = b := (dmul_comm _ _).trans (dmul_one (own_ne hb))
theorem own_bhi {b : UInt64} (hb : own_Bd b 2300) : own_Bd (own_hi b) 2330 := by
  have h1 := own_bmul own_bC hb 2328 (by decide) (by decide) (by decide)
  exact own_bsub (own_bm h1 (l := 2329) (by decide)) (own_bsub h1 (own_bm hb (by decide)) (by decide) (by decide)) (by decide) (by decide)
theorem own_tp1 {b : UInt64} {B : Int} (hb : own_Val b B) (hl : B.natAbs ≤ own_w 2300) : own_Val (own_f4 FP.dconst1 b b) 0 := by
  obtain ⟨H, hH, -⟩ := own_bhi ⟨B, hb, hl⟩
  obtain ⟨L, hL, lL⟩ := own_bsub (own_bm ⟨B, hb, hl⟩ (l := 2330) (by decide)) (own_bhi ⟨B, hb, hl⟩) (by decide) (by decide)
  unfold own_f4
  rw [own_hi1, own_lo1, own_1m hH]
  have hL : own_Val (FP.dsub b (own_hi b)) L := hL
  rw [own_1m hL]
  have e1 : own_Val (FP.dsub (own_hi b) b) (-L) := own_anti hb hH hL
  have e2 : own_Val (FP.dadd (FP.dsub (own_hi b) b) (FP.dsub b (own_hi b))) (-L + L) := own_addx e1 hL (by rw [Int.add_left_neg]; exact own_z3) (by rw [Int.add_left_neg]; exact own_zr)
  rw [Int.add_left_neg] at e2
  exact own_add0 (own_add0 e2 (own_mz own_d0 hH) own_z3) (own_mz own_d0 hL) own_z3
def own_fmp (hh ll x e : UInt64) : UInt64 := FP.dmul hh x
def own_fml (hh ll x e : UInt64) : UInt64 := FP.dadd (own_f4 hh x (FP.dmul hh x)) (FP.dadd (FP.dmul hh e) (FP.dmul ll x))
def own_fw (h : UInt64) : UInt64 := FP.dsub FP.dconst1 h
def own_fe (h l : UInt64) : UInt64 := FP.dsub (own_f6 FP.dconst1 (FP.dneg h) (own_fw h)) l
def own_fx (h l : UInt64) : UInt64 := FP.dadd (own_fw h) (own_fe h l)
def own_fy (h l : UInt64) : UInt64 := own_f6 (own_fw h) (own_fe h l) (own_fx h l)
/-- the law's last comparison -/
theorem own_last (n : Int64) (h0 : 0 ≤ n.toInt) (h1 : n.toInt ≤ 9007199254740992) (v : UInt64) (hv : v = FP.ddiv (FP.l2d n) 4845873199050653696) (o : ClassFile.CmpOp) :
    Op.cmpValue (FP.dcmp (FP.dadd (own_fmp FP.dconst1 FP.dconst0 (own_fx v FP.dconst0) (own_fy v FP.dconst0)) (own_fml FP.dconst1 FP.dconst0 (own_fx v FP.dconst0) (own_fy v FP.dconst0))) (FP.dsub FP.dconst1 v)) o = 0 := by
  have V := own_vm n h0 h1
  rw [← hv] at V
  have e : own_w 2200 = 9007199254740992 * own_w 2147 := by rw [show 9007199254740992 = own_w 53 by rw [← own_wd], ← own_wa]
  have l0 : n.toInt.toNat * own_w 2147 ≤ own_w 2200 := by rw [e]; exact Nat.mul_le_mul_right _ (by omega)
  have ew : ((own_w 2200 : Nat) : Int) - ((n.toInt.toNat * own_w 2147 : Nat) : Int) = (((9007199254740992 - n.toInt.toNat) * own_w 2147 : Nat) : Int) := by
    rw [Nat.sub_mul, ← e]; omega
  have hw : own_Val (own_fw v) (((9007199254740992 - n.toInt.toNat) * own_w 2147 : Nat) : Int) := by
    have := own_subx own_d1 V (own_wbig (k := 2200) (by decide) (by omega)) (by rw [ew, Int.natAbs_natCast]; exact own_rep _ _ (by omega) (by decide))
    rw [ew] at this; exact this
  have lw : (((9007199254740992 - n.toInt.toNat) * own_w 2147 : Nat) : Int).natAbs ≤ own_w 2200 := by
    rw [Int.natAbs_natCast, e]; exact Nat.mul_le_mul_right _ (by omega)
  have hs : own_Val (own_fw v) (((own_w 2200 : Nat) : Int) + -((n.toInt.toNat * own_w 2147 : Nat) : Int)) := by rw [← Int.sub_eq_add_neg, ew]; exact hw
  have h6 := own_ts own_d1 (own_neg V) hs (own_wbig (k := 2200) (by decide) (by omega)) (own_wbig (k := 2200) (by decide) (by omega))
  generalize (((9007199254740992 - n.toInt.toNat) * own_w 2147 : Nat) : Int) = Y at *
  have lY := own_wbig (k := 2200) (by decide) lw
  have he : own_Val (own_fe v FP.dconst0) 0 := own_sub0 h6 own_d0 own_z3
  have hx : own_Val (own_fx v FP.dconst0) Y := own_add0 hw he lY
  have hy : own_Val (own_fy v FP.dconst0) 0 := own_ts hw he (by rw [Int.add_zero]; exact hx) lY own_z3
  have hp : own_fmp FP.dconst1 FP.dconst0 (own_fx v FP.dconst0) (own_fy v FP.dconst0) = own_fx v FP.dconst0 := own_1m hx
  have hm : own_Val (own_fml FP.dconst1 FP.dconst0 (own_fx v FP.dconst0) (own_fy v FP.dconst0)) 0 := by
    unfold own_fml
    rw [own_1m hx]
    exact own_add0 (own_tp1 hx (Nat.le_trans lw (own_wle (by decide)))) (own_add0 (own_mzr own_d1 hy) (own_mz own_d0 hx) own_z3) own_z3
  rw [hp]
  exact own_eq0 (own_add0 hx hm lY) hw o
end

theorem own_selp {args : Array Value} {s : State} {y : MethodName} {n : Nat} (hi : (Cond.instantiable y.cls n).before args s = true) (hin : (Cond.instanceMethod y).before args s = true) (hp : (Cond.privateMethod y).before args s = true) (hy : y.cls ≠ "java/lang/invoke/MethodHandle" ∧ y.cls ≠ "java/lang/invoke/VarHandle") : (Cond.selects y.cls y y).before args s = true := by
  obtain ⟨c, k, h1, h2, -, h3, -⟩ := Cond.instantiable_spec hi
  exact selects_self_of_private h1 h2 (by cases hk : k.isInterface <;> simp_all) (Cond.privateMethod_at hp) hin hy
def own_mh (hh ll a b : UInt64) : UInt64 := FP.dadd (own_fmp hh ll a b) (own_fml hh ll a b)
def own_ml (hh ll a b : UInt64) : UInt64 := own_f6 (own_fmp hh ll a b) (own_fml hh ll a b) (own_mh hh ll a b)
def own_ch (hh ll a b : UInt64) : UInt64 := own_mh hh ll (own_fx a b) (own_fy a b)
def own_cl (hh ll a b : UInt64) : UInt64 := own_ml hh ll (own_fx a b) (own_fy a b)
def own_q (n d : Int64) : UInt64 := FP.ddiv (FP.l2d n) (FP.l2d d)
def own_p (n d : Int64) : UInt64 := FP.dmul (own_q n d) (FP.l2d d)
def own_r (n d : Int64) : UInt64 := FP.ddiv (FP.dsub (FP.dsub (FP.l2d n) (own_p n d)) (own_f4 (own_q n d) (FP.l2d d) (own_p n d))) (FP.l2d d)
def own_qh (n d : Int64) : UInt64 := FP.dadd (own_q n d) (own_r n d)
def own_ql (n d : Int64) : UInt64 := own_f6 (own_q n d) (own_r n d) (own_qh n d)
theorem d6_0 : decode prog_43_method_14_code 0 = .ok (.dload 4, 2) := by decide +kernel
theorem d6_2 : decode prog_43_method_14_code 2 = .ok (.dload_n 0, 1) := by decide +kernel
theorem d6_3 : decode prog_43_method_14_code 3 = .ok (.dsub, 1) := by decide +kernel
theorem d6_4 : decode prog_43_method_14_code 4 = .ok (.dstore 6, 2) := by decide +kernel
theorem d6_6 : decode prog_43_method_14_code 6 = .ok (.dload 4, 2) := by decide +kernel
theorem d6_8 : decode prog_43_method_14_code 8 = .ok (.dload 6, 2) := by decide +kernel
theorem d6_10 : decode prog_43_method_14_code 10 = .ok (.dsub, 1) := by decide +kernel
theorem d6_11 : decode prog_43_method_14_code 11 = .ok (.dstore 8, 2) := by decide +kernel
theorem d6_13 : decode prog_43_method_14_code 13 = .ok (.dload_n 0, 1) := by decide +kernel
theorem d6_14 : decode prog_43_method_14_code 14 = .ok (.dload 8, 2) := by decide +kernel
theorem d6_16 : decode prog_43_method_14_code 16 = .ok (.dsub, 1) := by decide +kernel
theorem d6_17 : decode prog_43_method_14_code 17 = .ok (.dload_n 2, 1) := by decide +kernel
theorem d6_18 : decode prog_43_method_14_code 18 = .ok (.dload 6, 2) := by decide +kernel
theorem d6_20 : decode prog_43_method_14_code 20 = .ok (.dsub, 1) := by decide +kernel
theorem d6_21 : decode prog_43_method_14_code 21 = .ok (.dadd, 1) := by decide +kernel
theorem d6_22 : decode prog_43_method_14_code 22 = .ok (.dreturn, 1) := by decide +kernel
def ok6 (d0 d1 d2 : UInt64) : Prop := Jvm.Free.Fl.NoNaN64 (FP.dsub d2 d0) ∧ Jvm.Free.Fl.NoNaN64 (FP.dsub d2 (FP.dsub d2 d0)) ∧ Jvm.Free.Fl.NoNaN64 (FP.dsub d0 (FP.dsub d2 (FP.dsub d2 d0))) ∧ Jvm.Free.Fl.NoNaN64 (FP.dsub d1 (FP.dsub d2 d0)) ∧ Jvm.Free.Fl.NoNaN64 (FP.dadd (FP.dsub d0 (FP.dsub d2 (FP.dsub d2 d0))) (FP.dsub d1 (FP.dsub d2 d0))) ∧ True
def Q6 (Z : State) (d0 : UInt64) (d1 : UInt64) (d2 : UInt64) (h0 : Heap) (n0 : Nat) (v : Option Value) (h : Heap) (L : List Loc) : Prop := v = some (.double (own_f6 d0 d1 d2)) ∧ Fr n0 L ∧ h = h0
theorem ef_rm6 (m : MethodId) (x0 : UInt64) (x1 : UInt64) (x2 : UInt64) : entryFrame m #[(.double x0), (.double x1), (.double x2)] 10 = mkF m 0 #[.val (.double x0), .second, .val (.double x1), .second, .val (.double x2), .second, .unset, .unset, .unset, .unset] [] := by first | (simp [entryFrame, mkF, argsToLocals, Value.category]; done) | rfl
theorem pnc_com_example_degree_degree_retrieval_DoubleDoubles : plainName "com/example/degree/degree/retrieval/DoubleDoubles" = true := by first | (simp [plainName, overriddenIn]; done) | decide +kernel
set_option maxRecDepth 65536 in
set_option maxHeartbeats 40000000 in
theorem rm6 (l : Launch) (Z : State) (a0 : Array Value) (hw : ∀ d ∈ tables_1, d.before a0 Z = true) (ws : List Jvm.Cond) (d0 : UInt64) (d1 : UInt64) (d2 : UInt64) (h0 : Heap) (n0 : Nat) (Z0 : n0 ≤ h0.size) (hok : ok6 d0 d1 d2) :
    MetFree l (⟨"com/example/degree/degree/retrieval/DoubleDoubles", "twoSumError", "(DDD)D"⟩ : MethodName) (head1 (Jvm.Cond.code (⟨"com/example/degree/degree/retrieval/DoubleDoubles", "twoSumError", "(DDD)D"⟩ : MethodName) prog_43_method_14_code 10 (some .double) :: ws) ({ frames := 0, cells := 0, slots := 0, locals := 0 } : Room)) (fun a U => a = #[(.double d0), (.double d1), (.double d2)] ∧ Z.Warmed39 U.vm ∧ U.heap = h0) (fun _ _ _ _ _ => True) (fun _ U o U' => ∃ v L, o = .returned v ∧ Q6 Z d0 d1 d2 h0 n0 v U'.heap L ∧ FrameEnd U o U' L ({ frames := 0, cells := 0, slots := 0, locals := 0 } : Room).cells ({ frames := 0, cells := 0, slots := 0, locals := 0 } : Room).slots) := by
  refine MetFree.of_bodySF (plainFor_of_name pnc_com_example_degree_degree_retrieval_DoubleDoubles) hisR ?_
  intro p e s m args below meth c s₁ Bd hml0 hP hK
  obtain ⟨rfl, hZ, hh⟩ := hP
  have hx := Bd.exec
  have hby := Bd.bytes
  have hml : c.maxLocals = 10 := hml0
  have hown : s.vm.findClass "com/example/degree/degree/retrieval/DoubleDoubles" = some m.cls := findClass_of_methodNamed Bd.named
  have hnm := (name_of_methodNamed Bd.named Bd.method).1
  have X0 : Stand p l e ({ frames := 0, cells := 0, slots := 0, locals := 0 } : Room) s m #[(.double d0), (.double d1), (.double d2)] below meth c s₁ [] 0 0 := Stand.of_body Bd
  have e0 : s₁.heap = h0 := by rw [← hh, Bd.state]; rfl
  have N0 := Fr.nil n0
  have kp0 : Keep h0 h0 [] := Keep.refl _ _
  have G0 : ∀ t, Steps p.tables e below (s₁.setTop (mkF m 0 #[.val (.double d0), .second, .val (.double d1), .second, .val (.double d2), .second, .unset, .unset, .unset, .unset] [])) t → Steps p.tables e below (s₁.setTop (entryFrame m #[(.double d0), (.double d1), (.double d2)] 10)) t := fun t k => castTop (ef_rm6 m d0 d1 d2) k
  obtain ⟨hn0, hn1, hn2, hn3, hn4, -⟩ := hok
  obtain ⟨fs, hr, hrun, hended, hW, hsame⟩ := X0.leave (v := some (.double (FP.dadd (FP.dsub d0 (FP.dsub d2 (FP.dsub d2 d0))) (FP.dsub d1 (FP.dsub d2 d0))))) (fun h => by rw [Bd.returns] at h; cases h)
  refine ⟨_, _, G0 _ ?_, hrun, hended, _, _, rfl, ?_, ⟨_, rfl⟩, hW, hsame.mono (by decide) (by decide)⟩
  · skip
    show Steps p.tables e below (s₁.setTop (mkF m 0 #[.val (.double d0), .second, .val (.double d1), .second, .val (.double d2), .second, .unset, .unset, .unset, .unset] [])) _
    refine XS.dload X0.here hx rfl (hb hby d6_0) rfl ?_
    show Steps p.tables e below (s₁.setTop (mkF m 2 #[.val (.double d0), .second, .val (.double d1), .second, .val (.double d2), .second, .unset, .unset, .unset, .unset] [(.double d2)])) _
    refine XS.dloadN X0.here hx rfl (hb hby d6_2) rfl ?_
    show Steps p.tables e below (s₁.setTop (mkF m 3 #[.val (.double d0), .second, .val (.double d1), .second, .val (.double d2), .second, .unset, .unset, .unset, .unset] [(.double d0), (.double d2)])) _
    refine XS.dsubS X0.here hx rfl (hb hby d6_3) rfl hn0 rfl ?_
    show Steps p.tables e below (s₁.setTop (mkF m 4 #[.val (.double d0), .second, .val (.double d1), .second, .val (.double d2), .second, .unset, .unset, .unset, .unset] [(.double (FP.dsub d2 d0))])) _
    refine XS.dstore X0.here hx rfl (hb hby d6_4) rfl (l' := #[.val (.double d0), .second, .val (.double d1), .second, .val (.double d2), .second, .val (.double (FP.dsub d2 d0)), .second, .unset, .unset]) rfl ?_
    show Steps p.tables e below (s₁.setTop (mkF m 6 #[.val (.double d0), .second, .val (.double d1), .second, .val (.double d2), .second, .val (.double (FP.dsub d2 d0)), .second, .unset, .unset] [])) _
    refine XS.dload X0.here hx rfl (hb hby d6_6) rfl ?_
    show Steps p.tables e below (s₁.setTop (mkF m 8 #[.val (.double d0), .second, .val (.double d1), .second, .val (.double d2), .second, .val (.double (FP.dsub d2 d0)), .second, .unset, .unset] [(.double d2)])) _
    refine XS.dload X0.here hx rfl (hb hby d6_8) rfl ?_
    show Steps p.tables e below (s₁.setTop (mkF m 10 #[.val (.double d0), .second, .val (.double d1), .second, .val (.double d2), .second, .val (.double (FP.dsub d2 d0)), .second, .unset, .unset] [(.double (FP.dsub d2 d0)), (.double d2)])) _
    refine XS.dsubS X0.here hx rfl (hb hby d6_10) rfl hn1 rfl ?_
    show Steps p.tables e below (s₁.setTop (mkF m 11 #[.val (.double d0), .second, .val (.double d1), .second, .val (.double d2), .second, .val (.double (FP.dsub d2 d0)), .second, .unset, .unset] [(.double (FP.dsub d2 (FP.dsub d2 d0)))])) _
    refine XS.dstore X0.here hx rfl (hb hby d6_11) rfl (l' := #[.val (.double d0), .second, .val (.double d1), .second, .val (.double d2), .second, .val (.double (FP.dsub d2 d0)), .second, .val (.double (FP.dsub d2 (FP.dsub d2 d0))), .second]) rfl ?_
    show Steps p.tables e below (s₁.setTop (mkF m 13 #[.val (.double d0), .second, .val (.double d1), .second, .val (.double d2), .second, .val (.double (FP.dsub d2 d0)), .second, .val (.double (FP.dsub d2 (FP.dsub d2 d0))), .second] [])) _
    refine XS.dloadN X0.here hx rfl (hb hby d6_13) rfl ?_
    show Steps p.tables e below (s₁.setTop (mkF m 14 #[.val (.double d0), .second, .val (.double d1), .second, .val (.double d2), .second, .val (.double (FP.dsub d2 d0)), .second, .val (.double (FP.dsub d2 (FP.dsub d2 d0))), .second] [(.double d0)])) _
    refine XS.dload X0.here hx rfl (hb hby d6_14) rfl ?_
    show Steps p.tables e below (s₁.setTop (mkF m 16 #[.val (.double d0), .second, .val (.double d1), .second, .val (.double d2), .second, .val (.double (FP.dsub d2 d0)), .second, .val (.double (FP.dsub d2 (FP.dsub d2 d0))), .second] [(.double (FP.dsub d2 (FP.dsub d2 d0))), (.double d0)])) _
    refine XS.dsubS X0.here hx rfl (hb hby d6_16) rfl hn2 rfl ?_
    show Steps p.tables e below (s₁.setTop (mkF m 17 #[.val (.double d0), .second, .val (.double d1), .second, .val (.double d2), .second, .val (.double (FP.dsub d2 d0)), .second, .val (.double (FP.dsub d2 (FP.dsub d2 d0))), .second] [(.double (FP.dsub d0 (FP.dsub d2 (FP.dsub d2 d0))))])) _
    refine XS.dloadN X0.here hx rfl (hb hby d6_17) rfl ?_
    show Steps p.tables e below (s₁.setTop (mkF m 18 #[.val (.double d0), .second, .val (.double d1), .second, .val (.double d2), .second, .val (.double (FP.dsub d2 d0)), .second, .val (.double (FP.dsub d2 (FP.dsub d2 d0))), .second] [(.double d1), (.double (FP.dsub d0 (FP.dsub d2 (FP.dsub d2 d0))))])) _
    refine XS.dload X0.here hx rfl (hb hby d6_18) rfl ?_
    show Steps p.tables e below (s₁.setTop (mkF m 20 #[.val (.double d0), .second, .val (.double d1), .second, .val (.double d2), .second, .val (.double (FP.dsub d2 d0)), .second, .val (.double (FP.dsub d2 (FP.dsub d2 d0))), .second] [(.double (FP.dsub d2 d0)), (.double d1), (.double (FP.dsub d0 (FP.dsub d2 (FP.dsub d2 d0))))])) _
    refine XS.dsubS X0.here hx rfl (hb hby d6_20) rfl hn3 rfl ?_
    show Steps p.tables e below (s₁.setTop (mkF m 21 #[.val (.double d0), .second, .val (.double d1), .second, .val (.double d2), .second, .val (.double (FP.dsub d2 d0)), .second, .val (.double (FP.dsub d2 (FP.dsub d2 d0))), .second] [(.double (FP.dsub d1 (FP.dsub d2 d0))), (.double (FP.dsub d0 (FP.dsub d2 (FP.dsub d2 d0))))])) _
    refine XS.daddS X0.here hx rfl (hb hby d6_21) rfl hn4 rfl ?_
    show Steps p.tables e below (s₁.setTop (mkF m 22 #[.val (.double d0), .second, .val (.double d1), .second, .val (.double d2), .second, .val (.double (FP.dsub d2 d0)), .second, .val (.double (FP.dsub d2 (FP.dsub d2 d0))), .second] [(.double (FP.dadd (FP.dsub d0 (FP.dsub d2 (FP.dsub d2 d0))) (FP.dsub d1 (FP.dsub d2 d0))))])) _
    exact retOut X0 hx Bd.returns rfl (Or.inr (Or.inr (Or.inl ⟨rfl, rfl, _, rfl⟩))) (hb hby d6_22) hr
  · show Q6 Z d0 d1 d2 h0 n0 _ s₁.heap _
    rw [e0]
    exact ⟨rfl, N0, rfl⟩
theorem d4_0 : decode prog_43_method_15_code 0 = .ok (.ldc2_w 39, 3) := by decide +kernel
theorem d4_3 : decode prog_43_method_15_code 3 = .ok (.dload_n 0, 1) := by decide +kernel
theorem d4_4 : decode prog_43_method_15_code 4 = .ok (.dmul, 1) := by decide +kernel
theorem d4_5 : decode prog_43_method_15_code 5 = .ok (.dstore 6, 2) := by decide +kernel
theorem d4_7 : decode prog_43_method_15_code 7 = .ok (.dload 6, 2) := by decide +kernel
theorem d4_9 : decode prog_43_method_15_code 9 = .ok (.dload 6, 2) := by decide +kernel
theorem d4_11 : decode prog_43_method_15_code 11 = .ok (.dload_n 0, 1) := by decide +kernel
theorem d4_12 : decode prog_43_method_15_code 12 = .ok (.dsub, 1) := by decide +kernel
theorem d4_13 : decode prog_43_method_15_code 13 = .ok (.dsub, 1) := by decide +kernel
theorem d4_14 : decode prog_43_method_15_code 14 = .ok (.dstore 8, 2) := by decide +kernel
theorem d4_16 : decode prog_43_method_15_code 16 = .ok (.dload_n 0, 1) := by decide +kernel
theorem d4_17 : decode prog_43_method_15_code 17 = .ok (.dload 8, 2) := by decide +kernel
theorem d4_19 : decode prog_43_method_15_code 19 = .ok (.dsub, 1) := by decide +kernel
theorem d4_20 : decode prog_43_method_15_code 20 = .ok (.dstore 10, 2) := by decide +kernel
theorem d4_22 : decode prog_43_method_15_code 22 = .ok (.ldc2_w 39, 3) := by decide +kernel
theorem d4_25 : decode prog_43_method_15_code 25 = .ok (.dload_n 2, 1) := by decide +kernel
theorem d4_26 : decode prog_43_method_15_code 26 = .ok (.dmul, 1) := by decide +kernel
theorem d4_27 : decode prog_43_method_15_code 27 = .ok (.dstore 12, 2) := by decide +kernel
theorem d4_29 : decode prog_43_method_15_code 29 = .ok (.dload 12, 2) := by decide +kernel
theorem d4_31 : decode prog_43_method_15_code 31 = .ok (.dload 12, 2) := by decide +kernel
theorem d4_33 : decode prog_43_method_15_code 33 = .ok (.dload_n 2, 1) := by decide +kernel
theorem d4_34 : decode prog_43_method_15_code 34 = .ok (.dsub, 1) := by decide +kernel
theorem d4_35 : decode prog_43_method_15_code 35 = .ok (.dsub, 1) := by decide +kernel
theorem d4_36 : decode prog_43_method_15_code 36 = .ok (.dstore 14, 2) := by decide +kernel
theorem d4_38 : decode prog_43_method_15_code 38 = .ok (.dload_n 2, 1) := by decide +kernel
theorem d4_39 : decode prog_43_method_15_code 39 = .ok (.dload 14, 2) := by decide +kernel
theorem d4_41 : decode prog_43_method_15_code 41 = .ok (.dsub, 1) := by decide +kernel
theorem d4_42 : decode prog_43_method_15_code 42 = .ok (.dstore 16, 2) := by decide +kernel
theorem d4_44 : decode prog_43_method_15_code 44 = .ok (.dload 8, 2) := by decide +kernel
theorem d4_46 : decode prog_43_method_15_code 46 = .ok (.dload 14, 2) := by decide +kernel
theorem d4_48 : decode prog_43_method_15_code 48 = .ok (.dmul, 1) := by decide +kernel
theorem d4_49 : decode prog_43_method_15_code 49 = .ok (.dload 4, 2) := by decide +kernel
theorem d4_51 : decode prog_43_method_15_code 51 = .ok (.dsub, 1) := by decide +kernel
theorem d4_52 : decode prog_43_method_15_code 52 = .ok (.dload 8, 2) := by decide +kernel
theorem d4_54 : decode prog_43_method_15_code 54 = .ok (.dload 16, 2) := by decide +kernel
theorem d4_56 : decode prog_43_method_15_code 56 = .ok (.dmul, 1) := by decide +kernel
theorem d4_57 : decode prog_43_method_15_code 57 = .ok (.dadd, 1) := by decide +kernel
theorem d4_58 : decode prog_43_method_15_code 58 = .ok (.dload 10, 2) := by decide +kernel
theorem d4_60 : decode prog_43_method_15_code 60 = .ok (.dload 14, 2) := by decide +kernel
theorem d4_62 : decode prog_43_method_15_code 62 = .ok (.dmul, 1) := by decide +kernel
theorem d4_63 : decode prog_43_method_15_code 63 = .ok (.dadd, 1) := by decide +kernel
theorem d4_64 : decode prog_43_method_15_code 64 = .ok (.dload 10, 2) := by decide +kernel
theorem d4_66 : decode prog_43_method_15_code 66 = .ok (.dload 16, 2) := by decide +kernel
theorem d4_68 : decode prog_43_method_15_code 68 = .ok (.dmul, 1) := by decide +kernel
theorem d4_69 : decode prog_43_method_15_code 69 = .ok (.dadd, 1) := by decide +kernel
theorem d4_70 : decode prog_43_method_15_code 70 = .ok (.dreturn, 1) := by decide +kernel
def ok4 (d0 d1 d2 : UInt64) : Prop := Jvm.Free.Fl.NoNaN64 (FP.dmul 4728779608772575232 d0) ∧ Jvm.Free.Fl.NoNaN64 (FP.dsub (FP.dmul 4728779608772575232 d0) d0) ∧ Jvm.Free.Fl.NoNaN64 (FP.dsub (FP.dmul 4728779608772575232 d0) (FP.dsub (FP.dmul 4728779608772575232 d0) d0)) ∧ Jvm.Free.Fl.NoNaN64 (FP.dsub d0 (FP.dsub (FP.dmul 4728779608772575232 d0) (FP.dsub (FP.dmul 4728779608772575232 d0) d0))) ∧ Jvm.Free.Fl.NoNaN64 (FP.dmul 4728779608772575232 d1) ∧ Jvm.Free.Fl.NoNaN64 (FP.dsub (FP.dmul 4728779608772575232 d1) d1) ∧ Jvm.Free.Fl.NoNaN64 (FP.dsub (FP.dmul 4728779608772575232 d1) (FP.dsub (FP.dmul 4728779608772575232 d1) d1)) ∧ Jvm.Free.Fl.NoNaN64 (FP.dsub d1 (FP.dsub (FP.dmul 4728779608772575232 d1) (FP.dsub (FP.dmul 4728779608772575232 d1) d1))) ∧ Jvm.Free.Fl.NoNaN64 (FP.dmul (FP.dsub (FP.dmul 4728779608772575232 d0) (FP.dsub (FP.dmul 4728779608772575232 d0) d0)) (FP.dsub (FP.dmul 4728779608772575232 d1) (FP.dsub (FP.dmul 4728779608772575232 d1) d1))) ∧ Jvm.Free.Fl.NoNaN64 (FP.dsub (FP.dmul (FP.dsub (FP.dmul 4728779608772575232 d0) (FP.dsub (FP.dmul 4728779608772575232 d0) d0)) (FP.dsub (FP.dmul 4728779608772575232 d1) (FP.dsub (FP.dmul 4728779608772575232 d1) d1))) d2) ∧ Jvm.Free.Fl.NoNaN64 (FP.dmul (FP.dsub (FP.dmul 4728779608772575232 d0) (FP.dsub (FP.dmul 4728779608772575232 d0) d0)) (FP.dsub d1 (FP.dsub (FP.dmul 4728779608772575232 d1) (FP.dsub (FP.dmul 4728779608772575232 d1) d1)))) ∧ Jvm.Free.Fl.NoNaN64 (FP.dadd (FP.dsub (FP.dmul (FP.dsub (FP.dmul 4728779608772575232 d0) (FP.dsub (FP.dmul 4728779608772575232 d0) d0)) (FP.dsub (FP.dmul 4728779608772575232 d1) (FP.dsub (FP.dmul 4728779608772575232 d1) d1))) d2) (FP.dmul (FP.dsub (FP.dmul 4728779608772575232 d0) (FP.dsub (FP.dmul 4728779608772575232 d0) d0)) (FP.dsub d1 (FP.dsub (FP.dmul 4728779608772575232 d1) (FP.dsub (FP.dmul 4728779608772575232 d1) d1))))) ∧ Jvm.Free.Fl.NoNaN64 (FP.dmul (FP.dsub d0 (FP.dsub (FP.dmul 4728779608772575232 d0) (FP.dsub (FP.dmul 4728779608772575232 d0) d0))) (FP.dsub (FP.dmul 4728779608772575232 d1) (FP.dsub (FP.dmul 4728779608772575232 d1) d1))) ∧ Jvm.Free.Fl.NoNaN64 (FP.dadd (FP.dadd (FP.dsub (FP.dmul (FP.dsub (FP.dmul 4728779608772575232 d0) (FP.dsub (FP.dmul 4728779608772575232 d0) d0)) (FP.dsub (FP.dmul 4728779608772575232 d1) (FP.dsub (FP.dmul 4728779608772575232 d1) d1))) d2) (FP.dmul (FP.dsub (FP.dmul 4728779608772575232 d0) (FP.dsub (FP.dmul 4728779608772575232 d0) d0)) (FP.dsub d1 (FP.dsub (FP.dmul 4728779608772575232 d1) (FP.dsub (FP.dmul 4728779608772575232 d1) d1))))) (FP.dmul (FP.dsub d0 (FP.dsub (FP.dmul 4728779608772575232 d0) (FP.dsub (FP.dmul 4728779608772575232 d0) d0))) (FP.dsub (FP.dmul 4728779608772575232 d1) (FP.dsub (FP.dmul 4728779608772575232 d1) d1)))) ∧ Jvm.Free.Fl.NoNaN64 (FP.dmul (FP.dsub d0 (FP.dsub (FP.dmul 4728779608772575232 d0) (FP.dsub (FP.dmul 4728779608772575232 d0) d0))) (FP.dsub d1 (FP.dsub (FP.dmul 4728779608772575232 d1) (FP.dsub (FP.dmul 4728779608772575232 d1) d1)))) ∧ Jvm.Free.Fl.NoNaN64 (FP.dadd (FP.dadd (FP.dadd (FP.dsub (FP.dmul (FP.dsub (FP.dmul 4728779608772575232 d0) (FP.dsub (FP.dmul 4728779608772575232 d0) d0)) (FP.dsub (FP.dmul 4728779608772575232 d1) (FP.dsub (FP.dmul 4728779608772575232 d1) d1))) d2) (FP.dmul (FP.dsub (FP.dmul 4728779608772575232 d0) (FP.dsub (FP.dmul 4728779608772575232 d0) d0)) (FP.dsub d1 (FP.dsub (FP.dmul 4728779608772575232 d1) (FP.dsub (FP.dmul 4728779608772575232 d1) d1))))) (FP.dmul (FP.dsub d0 (FP.dsub (FP.dmul 4728779608772575232 d0) (FP.dsub (FP.dmul 4728779608772575232 d0) d0))) (FP.dsub (FP.dmul 4728779608772575232 d1) (FP.dsub (FP.dmul 4728779608772575232 d1) d1)))) (FP.dmul (FP.dsub d0 (FP.dsub (FP.dmul 4728779608772575232 d0) (FP.dsub (FP.dmul 4728779608772575232 d0) d0))) (FP.dsub d1 (FP.dsub (FP.dmul 4728779608772575232 d1) (FP.dsub (FP.dmul 4728779608772575232 d1) d1))))) ∧ True
def Q4 (Z : State) (d0 : UInt64) (d1 : UInt64) (d2 : UInt64) (h0 : Heap) (n0 : Nat) (v : Option Value) (h : Heap) (L : List Loc) : Prop := v = some (.double (own_f4 d0 d1 d2)) ∧ Fr n0 L ∧ h = h0
theorem ef_rm4 (m : MethodId) (x0 : UInt64) (x1 : UInt64) (x2 : UInt64) : entryFrame m #[(.double x0), (.double x1), (.double x2)] 18 = mkF m 0 #[.val (.double x0), .second, .val (.double x1), .second, .val (.double x2), .second, .unset, .unset, .unset, .unset, .unset, .unset, .unset, .unset, .unset, .unset, .unset, .unset] [] := by first | (simp [entryFrame, mkF, argsToLocals, Value.category]; done) | rfl
set_option maxRecDepth 65536 in
set_option maxHeartbeats 40000000 in
theorem rm4 (l : Launch) (Z : State) (a0 : Array Value) (hw : ∀ d ∈ tables_1, d.before a0 Z = true) (ws : List Jvm.Cond) (d0 : UInt64) (d1 : UInt64) (d2 : UInt64) (h0 : Heap) (n0 : Nat) (Z0 : n0 ≤ h0.size) (hok : ok4 d0 d1 d2) :
    MetFree l (⟨"com/example/degree/degree/retrieval/DoubleDoubles", "twoProductError", "(DDD)D"⟩ : MethodName) (head1 (Jvm.Cond.code (⟨"com/example/degree/degree/retrieval/DoubleDoubles", "twoProductError", "(DDD)D"⟩ : MethodName) prog_43_method_15_code 18 (some .double) :: ws) ({ frames := 0, cells := 0, slots := 0, locals := 0 } : Room)) (fun a U => a = #[(.double d0), (.double d1), (.double d2)] ∧ Z.Warmed39 U.vm ∧ U.heap = h0) (fun _ _ _ _ _ => True) (fun _ U o U' => ∃ v L, o = .returned v ∧ Q4 Z d0 d1 d2 h0 n0 v U'.heap L ∧ FrameEnd U o U' L ({ frames := 0, cells := 0, slots := 0, locals := 0 } : Room).cells ({ frames := 0, cells := 0, slots := 0, locals := 0 } : Room).slots) := by
  refine MetFree.of_bodySF (plainFor_of_name pnc_com_example_degree_degree_retrieval_DoubleDoubles) hisR ?_
  intro p e s m args below meth c s₁ Bd hml0 hP hK
  obtain ⟨rfl, hZ, hh⟩ := hP
  have hx := Bd.exec
  have hby := Bd.bytes
  have hml : c.maxLocals = 18 := hml0
  have hown : s.vm.findClass "com/example/degree/degree/retrieval/DoubleDoubles" = some m.cls := findClass_of_methodNamed Bd.named
  have hnm := (name_of_methodNamed Bd.named Bd.method).1
  have X0 : Stand p l e ({ frames := 0, cells := 0, slots := 0, locals := 0 } : Room) s m #[(.double d0), (.double d1), (.double d2)] below meth c s₁ [] 0 0 := Stand.of_body Bd
  have e0 : s₁.heap = h0 := by rw [← hh, Bd.state]; rfl
  have N0 := Fr.nil n0
  have kp0 : Keep h0 h0 [] := Keep.refl _ _
  have G0 : ∀ t, Steps p.tables e below (s₁.setTop (mkF m 0 #[.val (.double d0), .second, .val (.double d1), .second, .val (.double d2), .second, .unset, .unset, .unset, .unset, .unset, .unset, .unset, .unset, .unset, .unset, .unset, .unset] [])) t → Steps p.tables e below (s₁.setTop (entryFrame m #[(.double d0), (.double d1), (.double d2)] 18)) t := fun t k => castTop (ef_rm4 m d0 d1 d2) k
  obtain ⟨hn0, hn1, hn2, hn3, hn4, hn5, hn6, hn7, hn8, hn9, hn10, hn11, hn12, hn13, hn14, hn15, -⟩ := hok
  obtain ⟨fs, hr, hrun, hended, hW, hsame⟩ := X0.leave (v := some (.double (FP.dadd (FP.dadd (FP.dadd (FP.dsub (FP.dmul (FP.dsub (FP.dmul 4728779608772575232 d0) (FP.dsub (FP.dmul 4728779608772575232 d0) d0)) (FP.dsub (FP.dmul 4728779608772575232 d1) (FP.dsub (FP.dmul 4728779608772575232 d1) d1))) d2) (FP.dmul (FP.dsub (FP.dmul 4728779608772575232 d0) (FP.dsub (FP.dmul 4728779608772575232 d0) d0)) (FP.dsub d1 (FP.dsub (FP.dmul 4728779608772575232 d1) (FP.dsub (FP.dmul 4728779608772575232 d1) d1))))) (FP.dmul (FP.dsub d0 (FP.dsub (FP.dmul 4728779608772575232 d0) (FP.dsub (FP.dmul 4728779608772575232 d0) d0))) (FP.dsub (FP.dmul 4728779608772575232 d1) (FP.dsub (FP.dmul 4728779608772575232 d1) d1)))) (FP.dmul (FP.dsub d0 (FP.dsub (FP.dmul 4728779608772575232 d0) (FP.dsub (FP.dmul 4728779608772575232 d0) d0))) (FP.dsub d1 (FP.dsub (FP.dmul 4728779608772575232 d1) (FP.dsub (FP.dmul 4728779608772575232 d1) d1))))))) (fun h => by rw [Bd.returns] at h; cases h)
  refine ⟨_, _, G0 _ ?_, hrun, hended, _, _, rfl, ?_, ⟨_, rfl⟩, hW, hsame.mono (by decide) (by decide)⟩
  · skip
    show Steps p.tables e below (s₁.setTop (mkF m 0 #[.val (.double d0), .second, .val (.double d1), .second, .val (.double d2), .second, .unset, .unset, .unset, .unset, .unset, .unset, .unset, .unset, .unset, .unset, .unset, .unset] [])) _
    refine X0.ldc2DoubleC hx hown (mvT hZ (hq hw 25 rfl)) (g := (mkF m 0 #[.val (.double d0), .second, .val (.double d1), .second, .val (.double d2), .second, .unset, .unset, .unset, .unset, .unset, .unset, .unset, .unset, .unset, .unset, .unset, .unset] [])) rfl (hb hby d4_0) _ ?_
    show Steps p.tables e below (s₁.setTop (mkF m 3 #[.val (.double d0), .second, .val (.double d1), .second, .val (.double d2), .second, .unset, .unset, .unset, .unset, .unset, .unset, .unset, .unset, .unset, .unset, .unset, .unset] [(.double 4728779608772575232)])) _
    refine XS.dloadN X0.here hx rfl (hb hby d4_3) rfl ?_
    show Steps p.tables e below (s₁.setTop (mkF m 4 #[.val (.double d0), .second, .val (.double d1), .second, .val (.double d2), .second, .unset, .unset, .unset, .unset, .unset, .unset, .unset, .unset, .unset, .unset, .unset, .unset] [(.double d0), (.double 4728779608772575232)])) _
    refine XS.dmulS X0.here hx rfl (hb hby d4_4) rfl hn0 rfl ?_
    show Steps p.tables e below (s₁.setTop (mkF m 5 #[.val (.double d0), .second, .val (.double d1), .second, .val (.double d2), .second, .unset, .unset, .unset, .unset, .unset, .unset, .unset, .unset, .unset, .unset, .unset, .unset] [(.double (FP.dmul 4728779608772575232 d0))])) _
    refine XS.dstore X0.here hx rfl (hb hby d4_5) rfl (l' := #[.val (.double d0), .second, .val (.double d1), .second, .val (.double d2), .second, .val (.double (FP.dmul 4728779608772575232 d0)), .second, .unset, .unset, .unset, .unset, .unset, .unset, .unset, .unset, .unset, .unset]) rfl ?_
    show Steps p.tables e below (s₁.setTop (mkF m 7 #[.val (.double d0), .second, .val (.double d1), .second, .val (.double d2), .second, .val (.double (FP.dmul 4728779608772575232 d0)), .second, .unset, .unset, .unset, .unset, .unset, .unset, .unset, .unset, .unset, .unset] [])) _
    refine XS.dload X0.here hx rfl (hb hby d4_7) rfl ?_
    show Steps p.tables e below (s₁.setTop (mkF m 9 #[.val (.double d0), .second, .val (.double d1), .second, .val (.double d2), .second, .val (.double (FP.dmul 4728779608772575232 d0)), .second, .unset, .unset, .unset, .unset, .unset, .unset, .unset, .unset, .unset, .unset] [(.double (FP.dmul 4728779608772575232 d0))])) _
    refine XS.dload X0.here hx rfl (hb hby d4_9) rfl ?_
    show Steps p.tables e below (s₁.setTop (mkF m 11 #[.val (.double d0), .second, .val (.double d1), .second, .val (.double d2), .second, .val (.double (FP.dmul 4728779608772575232 d0)), .second, .unset, .unset, .unset, .unset, .unset, .unset, .unset, .unset, .unset, .unset] [(.double (FP.dmul 4728779608772575232 d0)), (.double (FP.dmul 4728779608772575232 d0))])) _
    refine XS.dloadN X0.here hx rfl (hb hby d4_11) rfl ?_
    show Steps p.tables e below (s₁.setTop (mkF m 12 #[.val (.double d0), .second, .val (.double d1), .second, .val (.double d2), .second, .val (.double (FP.dmul 4728779608772575232 d0)), .second, .unset, .unset, .unset, .unset, .unset, .unset, .unset, .unset, .unset, .unset] [(.double d0), (.double (FP.dmul 4728779608772575232 d0)), (.double (FP.dmul 4728779608772575232 d0))])) _
    refine XS.dsubS X0.here hx rfl (hb hby d4_12) rfl hn1 rfl ?_
    show Steps p.tables e below (s₁.setTop (mkF m 13 #[.val (.double d0), .second, .val (.double d1), .second, .val (.double d2), .second, .val (.double (FP.dmul 4728779608772575232 d0)), .second, .unset, .unset, .unset, .unset, .unset, .unset, .unset, .unset, .unset, .unset] [(.double (FP.dsub (FP.dmul 4728779608772575232 d0) d0)), (.double (FP.dmul 4728779608772575232 d0))])) _
    refine XS.dsubS X0.here hx rfl (hb hby d4_13) rfl hn2 rfl ?_
    show Steps p.tables e below (s₁.setTop (mkF m 14 #[.val (.double d0), .second, .val (.double d1), .second, .val (.double d2), .second, .val (.double (FP.dmul 4728779608772575232 d0)), .second, .unset, .unset, .unset, .unset, .unset, .unset, .unset, .unset, .unset, .unset] [(.double (FP.dsub (FP.dmul 4728779608772575232 d0) (FP.dsub (FP.dmul 4728779608772575232 d0) d0)))])) _
    refine XS.dstore X0.here hx rfl (hb hby d4_14) rfl (l' := #[.val (.double d0), .second, .val (.double d1), .second, .val (.double d2), .second, .val (.double (FP.dmul 4728779608772575232 d0)), .second, .val (.double (FP.dsub (FP.dmul 4728779608772575232 d0) (FP.dsub (FP.dmul 4728779608772575232 d0) d0))), .second, .unset, .unset, .unset, .unset, .unset, .unset, .unset, .unset]) rfl ?_
    show Steps p.tables e below (s₁.setTop (mkF m 16 #[.val (.double d0), .second, .val (.double d1), .second, .val (.double d2), .second, .val (.double (FP.dmul 4728779608772575232 d0)), .second, .val (.double (FP.dsub (FP.dmul 4728779608772575232 d0) (FP.dsub (FP.dmul 4728779608772575232 d0) d0))), .second, .unset, .unset, .unset, .unset, .unset, .unset, .unset, .unset] [])) _
    refine XS.dloadN X0.here hx rfl (hb hby d4_16) rfl ?_
    show Steps p.tables e below (s₁.setTop (mkF m 17 #[.val (.double d0), .second, .val (.double d1), .second, .val (.double d2), .second, .val (.double (FP.dmul 4728779608772575232 d0)), .second, .val (.double (FP.dsub (FP.dmul 4728779608772575232 d0) (FP.dsub (FP.dmul 4728779608772575232 d0) d0))), .second, .unset, .unset, .unset, .unset, .unset, .unset, .unset, .unset] [(.double d0)])) _
    refine XS.dload X0.here hx rfl (hb hby d4_17) rfl ?_
    show Steps p.tables e below (s₁.setTop (mkF m 19 #[.val (.double d0), .second, .val (.double d1), .second, .val (.double d2), .second, .val (.double (FP.dmul 4728779608772575232 d0)), .second, .val (.double (FP.dsub (FP.dmul 4728779608772575232 d0) (FP.dsub (FP.dmul 4728779608772575232 d0) d0))), .second, .unset, .unset, .unset, .unset, .unset, .unset, .unset, .unset] [(.double (FP.dsub (FP.dmul 4728779608772575232 d0) (FP.dsub (FP.dmul 4728779608772575232 d0) d0))), (.double d0)])) _
    refine XS.dsubS X0.here hx rfl (hb hby d4_19) rfl hn3 rfl ?_
    show Steps p.tables e below (s₁.setTop (mkF m 20 #[.val (.double d0), .second, .val (.double d1), .second, .val (.double d2), .second, .val (.double (FP.dmul 4728779608772575232 d0)), .second, .val (.double (FP.dsub (FP.dmul 4728779608772575232 d0) (FP.dsub (FP.dmul 4728779608772575232 d0) d0))), .second, .unset, .unset, .unset, .unset, .unset, .unset, .unset, .unset] [(.double (FP.dsub d0 (FP.dsub (FP.dmul 4728779608772575232 d0) (FP.dsub (FP.dmul 4728779608772575232 d0) d0))))])) _
    refine XS.dstore X0.here hx rfl (hb hby d4_20) rfl (l' := #[.val (.double d0), .second, .val (.double d1), .second, .val (.double d2), .second, .val (.double (FP.dmul 4728779608772575232 d0)), .second, .val (.double (FP.dsub (FP.dmul 4728779608772575232 d0) (FP.dsub (FP.dmul 4728779608772575232 d0) d0))), .second, .val (.double (FP.dsub d0 (FP.dsub (FP.dmul 4728779608772575232 d0) (FP.dsub (FP.dmul 4728779608772575232 d0) d0)))), .second, .unset, .unset, .unset, .unset, .unset, .unset]) rfl ?_
    show Steps p.tables e below (s₁.setTop (mkF m 22 #[.val (.double d0), .second, .val (.double d1), .second, .val (.double d2), .second, .val (.double (FP.dmul 4728779608772575232 d0)), .second, .val (.double (FP.dsub (FP.dmul 4728779608772575232 d0) (FP.dsub (FP.dmul 4728779608772575232 d0) d0))), .second, .val (.double (FP.dsub d0 (FP.dsub (FP.dmul 4728779608772575232 d0) (FP.dsub (FP.dmul 4728779608772575232 d0) d0)))), .second, .unset, .unset, .unset, .unset, .unset, .unset] [])) _
    refine X0.ldc2DoubleC hx hown (mvT hZ (hq hw 25 rfl)) (g := (mkF m 22 #[.val (.double d0), .second, .val (.double d1), .second, .val (.double d2), .second, .val (.double (FP.dmul 4728779608772575232 d0)), .second, .val (.double (FP.dsub (FP.dmul 4728779608772575232 d0) (FP.dsub (FP.dmul 4728779608772575232 d0) d0))), .second, .val (.double (FP.dsub d0 (FP.dsub (FP.dmul 4728779608772575232 d0) (FP.dsub (FP.dmul 4728779608772575232 d0) d0)))), .second, .unset, .unset, .unset, .unset, .unset, .unset] [])) rfl (hb hby d4_22) _ ?_
    show Steps p.tables e below (s₁.setTop (mkF m 25 #[.val (.double d0), .second, .val (.double d1), .second, .val (.double d2), .second, .val (.double (FP.dmul 4728779608772575232 d0)), .second, .val (.double (FP.dsub (FP.dmul 4728779608772575232 d0) (FP.dsub (FP.dmul 4728779608772575232 d0) d0))), .second, .val (.double (FP.dsub d0 (FP.dsub (FP.dmul 4728779608772575232 d0) (FP.dsub (FP.dmul 4728779608772575232 d0) d0)))), .second, .unset, .unset, .unset, .unset, .unset, .unset] [(.double 4728779608772575232)])) _
    refine XS.dloadN X0.here hx rfl (hb hby d4_25) rfl ?_
    show Steps p.tables e below (s₁.setTop (mkF m 26 #[.val (.double d0), .second, .val (.double d1), .second, .val (.double d2), .second, .val (.double (FP.dmul 4728779608772575232 d0)), .second, .val (.double (FP.dsub (FP.dmul 4728779608772575232 d0) (FP.dsub (FP.dmul 4728779608772575232 d0) d0))), .second, .val (.double (FP.dsub d0 (FP.dsub (FP.dmul 4728779608772575232 d0) (FP.dsub (FP.dmul 4728779608772575232 d0) d0)))), .second, .unset, .unset, .unset, .unset, .unset, .unset] [(.double d1), (.double 4728779608772575232)])) _
    refine XS.dmulS X0.here hx rfl (hb hby d4_26) rfl hn4 rfl ?_
    show Steps p.tables e below (s₁.setTop (mkF m 27 #[.val (.double d0), .second, .val (.double d1), .second, .val (.double d2), .second, .val (.double (FP.dmul 4728779608772575232 d0)), .second, .val (.double (FP.dsub (FP.dmul 4728779608772575232 d0) (FP.dsub (FP.dmul 4728779608772575232 d0) d0))), .second, .val (.double (FP.dsub d0 (FP.dsub (FP.dmul 4728779608772575232 d0) (FP.dsub (FP.dmul 4728779608772575232 d0) d0)))), .second, .unset, .unset, .unset, .unset, .unset, .unset] [(.double (FP.dmul 4728779608772575232 d1))])) _
    refine XS.dstore X0.here hx rfl (hb hby d4_27) rfl (l' := #[.val (.double d0), .second, .val (.double d1), .second, .val (.double d2), .second, .val (.double (FP.dmul 4728779608772575232 d0)), .second, .val (.double (FP.dsub (FP.dmul 4728779608772575232 d0) (FP.dsub (FP.dmul 4728779608772575232 d0) d0))), .second, .val (.double (FP.dsub d0 (FP.dsub (FP.dmul 4728779608772575232 d0) (FP.dsub (FP.dmul 4728779608772575232 d0) d0)))), .second, .val (.double (FP.dmul 4728779608772575232 d1)), .second, .unset, .unset, .unset, .unset]) rfl ?_
    show Steps p.tables e below (s₁.setTop (mkF m 29 #[.val (.double d0), .second, .val (.double d1), .second, .val (.double d2), .second, .val (.double (FP.dmul 4728779608772575232 d0)), .second, .val (.double (FP.dsub (FP.dmul 4728779608772575232 d0) (FP.dsub (FP.dmul 4728779608772575232 d0) d0))), .second, .val (.double (FP.dsub d0 (FP.dsub (FP.dmul 4728779608772575232 d0) (FP.dsub (FP.dmul 4728779608772575232 d0) d0)))), .second, .val (.double (FP.dmul 4728779608772575232 d1)), .second, .unset, .unset, .unset, .unset] [])) _
    refine XS.dload X0.here hx rfl (hb hby d4_29) rfl ?_
    show Steps p.tables e below (s₁.setTop (mkF m 31 #[.val (.double d0), .second, .val (.double d1), .second, .val (.double d2), .second, .val (.double (FP.dmul 4728779608772575232 d0)), .second, .val (.double (FP.dsub (FP.dmul 4728779608772575232 d0) (FP.dsub (FP.dmul 4728779608772575232 d0) d0))), .second, .val (.double (FP.dsub d0 (FP.dsub (FP.dmul 4728779608772575232 d0) (FP.dsub (FP.dmul 4728779608772575232 d0) d0)))), .second, .val (.double (FP.dmul 4728779608772575232 d1)), .second, .unset, .unset, .unset, .unset] [(.double (FP.dmul 4728779608772575232 d1))])) _
    refine XS.dload X0.here hx rfl (hb hby d4_31) rfl ?_
    show Steps p.tables e below (s₁.setTop (mkF m 33 #[.val (.double d0), .second, .val (.double d1), .second, .val (.double d2), .second, .val (.double (FP.dmul 4728779608772575232 d0)), .second, .val (.double (FP.dsub (FP.dmul 4728779608772575232 d0) (FP.dsub (FP.dmul 4728779608772575232 d0) d0))), .second, .val (.double (FP.dsub d0 (FP.dsub (FP.dmul 4728779608772575232 d0) (FP.dsub (FP.dmul 4728779608772575232 d0) d0)))), .second, .val (.double (FP.dmul 4728779608772575232 d1)), .second, .unset, .unset, .unset, .unset] [(.double (FP.dmul 4728779608772575232 d1)), (.double (FP.dmul 4728779608772575232 d1))])) _
    refine XS.dloadN X0.here hx rfl (hb hby d4_33) rfl ?_
    show Steps p.tables e below (s₁.setTop (mkF m 34 #[.val (.double d0), .second, .val (.double d1), .second, .val (.double d2), .second, .val (.double (FP.dmul 4728779608772575232 d0)), .second, .val (.double (FP.dsub (FP.dmul 4728779608772575232 d0) (FP.dsub (FP.dmul 4728779608772575232 d0) d0))), .second, .val (.double (FP.dsub d0 (FP.dsub (FP.dmul 4728779608772575232 d0) (FP.dsub (FP.dmul 4728779608772575232 d0) d0)))), .second, .val (.double (FP.dmul 4728779608772575232 d1)), .second, .unset, .unset, .unset, .unset] [(.double d1), (.double (FP.dmul 4728779608772575232 d1)), (.double (FP.dmul 4728779608772575232 d1))])) _
    refine XS.dsubS X0.here hx rfl (hb hby d4_34) rfl hn5 rfl ?_
    show Steps p.tables e below (s₁.setTop (mkF m 35 #[.val (.double d0), .second, .val (.double d1), .second, .val (.double d2), .second, .val (.double (FP.dmul 4728779608772575232 d0)), .second, .val (.double (FP.dsub (FP.dmul 4728779608772575232 d0) (FP.dsub (FP.dmul 4728779608772575232 d0) d0))), .second, .val (.double (FP.dsub d0 (FP.dsub (FP.dmul 4728779608772575232 d0) (FP.dsub (FP.dmul 4728779608772575232 d0) d0)))), .second, .val (.double (FP.dmul 4728779608772575232 d1)), .second, .unset, .unset, .unset, .unset] [(.double (FP.dsub (FP.dmul 4728779608772575232 d1) d1)), (.double (FP.dmul 4728779608772575232 d1))])) _
    refine XS.dsubS X0.here hx rfl (hb hby d4_35) rfl hn6 rfl ?_
    show Steps p.tables e below (s₁.setTop (mkF m 36 #[.val (.double d0), .second, .val (.double d1), .second, .val (.double d2), .second, .val (.double (FP.dmul 4728779608772575232 d0)), .second, .val (.double (FP.dsub (FP.dmul 4728779608772575232 d0) (FP.dsub (FP.dmul 4728779608772575232 d0) d0))), .second, .val (.double (FP.dsub d0 (FP.dsub (FP.dmul 4728779608772575232 d0) (FP.dsub (FP.dmul 4728779608772575232 d0) d0)))), .second, .val (.double (FP.dmul 4728779608772575232 d1)), .second, .unset, .unset, .unset, .unset] [(.double (FP.dsub (FP.dmul 4728779608772575232 d1) (FP.dsub (FP.dmul 4728779608772575232 d1) d1)))])) _
    refine XS.dstore X0.here hx rfl (hb hby d4_36) rfl (l' := #[.val (.double d0), .second, .val (.double d1), .second, .val (.double d2), .second, .val (.double (FP.dmul 4728779608772575232 d0)), .second, .val (.double (FP.dsub (FP.dmul 4728779608772575232 d0) (FP.dsub (FP.dmul 4728779608772575232 d0) d0))), .second, .val (.double (FP.dsub d0 (FP.dsub (FP.dmul 4728779608772575232 d0) (FP.dsub (FP.dmul 4728779608772575232 d0) d0)))), .second, .val (.double (FP.dmul 4728779608772575232 d1)), .second, .val (.double (FP.dsub (FP.dmul 4728779608772575232 d1) (FP.dsub (FP.dmul 4728779608772575232 d1) d1))), .second, .unset, .unset]) rfl ?_
    show Steps p.tables e below (s₁.setTop (mkF m 38 #[.val (.double d0), .second, .val (.double d1), .second, .val (.double d2), .second, .val (.double (FP.dmul 4728779608772575232 d0)), .second, .val (.double (FP.dsub (FP.dmul 4728779608772575232 d0) (FP.dsub (FP.dmul 4728779608772575232 d0) d0))), .second, .val (.double (FP.dsub d0 (FP.dsub (FP.dmul 4728779608772575232 d0) (FP.dsub (FP.dmul 4728779608772575232 d0) d0)))), .second, .val (.double (FP.dmul 4728779608772575232 d1)), .second, .val (.double (FP.dsub (FP.dmul 4728779608772575232 d1) (FP.dsub (FP.dmul 4728779608772575232 d1) d1))), .second, .unset, .unset] [])) _
    refine XS.dloadN X0.here hx rfl (hb hby d4_38) rfl ?_
    show Steps p.tables e below (s₁.setTop (mkF m 39 #[.val (.double d0), .second, .val (.double d1), .second, .val (.double d2), .second, .val (.double (FP.dmul 4728779608772575232 d0)), .second, .val (.double (FP.dsub (FP.dmul 4728779608772575232 d0) (FP.dsub (FP.dmul 4728779608772575232 d0) d0))), .second, .val (.double (FP.dsub d0 (FP.dsub (FP.dmul 4728779608772575232 d0) (FP.dsub (FP.dmul 4728779608772575232 d0) d0)))), .second, .val (.double (FP.dmul 4728779608772575232 d1)), .second, .val (.double (FP.dsub (FP.dmul 4728779608772575232 d1) (FP.dsub (FP.dmul 4728779608772575232 d1) d1))), .second, .unset, .unset] [(.double d1)])) _
    refine XS.dload X0.here hx rfl (hb hby d4_39) rfl ?_
    show Steps p.tables e below (s₁.setTop (mkF m 41 #[.val (.double d0), .second, .val (.double d1), .second, .val (.double d2), .second, .val (.double (FP.dmul 4728779608772575232 d0)), .second, .val (.double (FP.dsub (FP.dmul 4728779608772575232 d0) (FP.dsub (FP.dmul 4728779608772575232 d0) d0))), .second, .val (.double (FP.dsub d0 (FP.dsub (FP.dmul 4728779608772575232 d0) (FP.dsub (FP.dmul 4728779608772575232 d0) d0)))), .second, .val (.double (FP.dmul 4728779608772575232 d1)), .second, .val (.double (FP.dsub (FP.dmul 4728779608772575232 d1) (FP.dsub (FP.dmul 4728779608772575232 d1) d1))), .second, .unset, .unset] [(.double (FP.dsub (FP.dmul 4728779608772575232 d1) (FP.dsub (FP.dmul 4728779608772575232 d1) d1))), (.double d1)])) _
    refine XS.dsubS X0.here hx rfl (hb hby d4_41) rfl hn7 rfl ?_
    show Steps p.tables e below (s₁.setTop (mkF m 42 #[.val (.double d0), .second, .val (.double d1), .second, .val (.double d2), .second, .val (.double (FP.dmul 4728779608772575232 d0)), .second, .val (.double (FP.dsub (FP.dmul 4728779608772575232 d0) (FP.dsub (FP.dmul 4728779608772575232 d0) d0))), .second, .val (.double (FP.dsub d0 (FP.dsub (FP.dmul 4728779608772575232 d0) (FP.dsub (FP.dmul 4728779608772575232 d0) d0)))), .second, .val (.double (FP.dmul 4728779608772575232 d1)), .second, .val (.double (FP.dsub (FP.dmul 4728779608772575232 d1) (FP.dsub (FP.dmul 4728779608772575232 d1) d1))), .second, .unset, .unset] [(.double (FP.dsub d1 (FP.dsub (FP.dmul 4728779608772575232 d1) (FP.dsub (FP.dmul 4728779608772575232 d1) d1))))])) _
    refine XS.dstore X0.here hx rfl (hb hby d4_42) rfl (l' := #[.val (.double d0), .second, .val (.double d1), .second, .val (.double d2), .second, .val (.double (FP.dmul 4728779608772575232 d0)), .second, .val (.double (FP.dsub (FP.dmul 4728779608772575232 d0) (FP.dsub (FP.dmul 4728779608772575232 d0) d0))), .second, .val (.double (FP.dsub d0 (FP.dsub (FP.dmul 4728779608772575232 d0) (FP.dsub (FP.dmul 4728779608772575232 d0) d0)))), .second, .val (.double (FP.dmul 4728779608772575232 d1)), .second, .val (.double (FP.dsub (FP.dmul 4728779608772575232 d1) (FP.dsub (FP.dmul 4728779608772575232 d1) d1))), .second, .val (.double (FP.dsub d1 (FP.dsub (FP.dmul 4728779608772575232 d1) (FP.dsub (FP.dmul 4728779608772575232 d1) d1)))), .second]) rfl ?_
    show Steps p.tables e below (s₁.setTop (mkF m 44 #[.val (.double d0), .second, .val (.double d1), .second, .val (.double d2), .second, .val (.double (FP.dmul 4728779608772575232 d0)), .second, .val (.double (FP.dsub (FP.dmul 4728779608772575232 d0) (FP.dsub (FP.dmul 4728779608772575232 d0) d0))), .second, .val (.double (FP.dsub d0 (FP.dsub (FP.dmul 4728779608772575232 d0) (FP.dsub (FP.dmul 4728779608772575232 d0) d0)))), .second, .val (.double (FP.dmul 4728779608772575232 d1)), .second, .val (.double (FP.dsub (FP.dmul 4728779608772575232 d1) (FP.dsub (FP.dmul 4728779608772575232 d1) d1))), .second, .val (.double (FP.dsub d1 (FP.dsub (FP.dmul 4728779608772575232 d1) (FP.dsub (FP.dmul 4728779608772575232 d1) d1)))), .second] [])) _
    refine XS.dload X0.here hx rfl (hb hby d4_44) rfl ?_
    show Steps p.tables e below (s₁.setTop (mkF m 46 #[.val (.double d0), .second, .val (.double d1), .second, .val (.double d2), .second, .val (.double (FP.dmul 4728779608772575232 d0)), .second, .val (.double (FP.dsub (FP.dmul 4728779608772575232 d0) (FP.dsub (FP.dmul 4728779608772575232 d0) d0))), .second, .val (.double (FP.dsub d0 (FP.dsub (FP.dmul 4728779608772575232 d0) (FP.dsub (FP.dmul 4728779608772575232 d0) d0)))), .second, .val (.double (FP.dmul 4728779608772575232 d1)), .second, .val (.double (FP.dsub (FP.dmul 4728779608772575232 d1) (FP.dsub (FP.dmul 4728779608772575232 d1) d1))), .second, .val (.double (FP.dsub d1 (FP.dsub (FP.dmul 4728779608772575232 d1) (FP.dsub (FP.dmul 4728779608772575232 d1) d1)))), .second] [(.double (FP.dsub (FP.dmul 4728779608772575232 d0) (FP.dsub (FP.dmul 4728779608772575232 d0) d0)))])) _
    refine XS.dload X0.here hx rfl (hb hby d4_46) rfl ?_
    show Steps p.tables e below (s₁.setTop (mkF m 48 #[.val (.double d0), .second, .val (.double d1), .second, .val (.double d2), .second, .val (.double (FP.dmul 4728779608772575232 d0)), .second, .val (.double (FP.dsub (FP.dmul 4728779608772575232 d0) (FP.dsub (FP.dmul 4728779608772575232 d0) d0))), .second, .val (.double (FP.dsub d0 (FP.dsub (FP.dmul 4728779608772575232 d0) (FP.dsub (FP.dmul 4728779608772575232 d0) d0)))), .second, .val (.double (FP.dmul 4728779608772575232 d1)), .second, .val (.double (FP.dsub (FP.dmul 4728779608772575232 d1) (FP.dsub (FP.dmul 4728779608772575232 d1) d1))), .second, .val (.double (FP.dsub d1 (FP.dsub (FP.dmul 4728779608772575232 d1) (FP.dsub (FP.dmul 4728779608772575232 d1) d1)))), .second] [(.double (FP.dsub (FP.dmul 4728779608772575232 d1) (FP.dsub (FP.dmul 4728779608772575232 d1) d1))), (.double (FP.dsub (FP.dmul 4728779608772575232 d0) (FP.dsub (FP.dmul 4728779608772575232 d0) d0)))])) _
    refine XS.dmulS X0.here hx rfl (hb hby d4_48) rfl hn8 rfl ?_
    show Steps p.tables e below (s₁.setTop (mkF m 49 #[.val (.double d0), .second, .val (.double d1), .second, .val (.double d2), .second, .val (.double (FP.dmul 4728779608772575232 d0)), .second, .val (.double (FP.dsub (FP.dmul 4728779608772575232 d0) (FP.dsub (FP.dmul 4728779608772575232 d0) d0))), .second, .val (.double (FP.dsub d0 (FP.dsub (FP.dmul 4728779608772575232 d0) (FP.dsub (FP.dmul 4728779608772575232 d0) d0)))), .second, .val (.double (FP.dmul 4728779608772575232 d1)), .second, .val (.double (FP.dsub (FP.dmul 4728779608772575232 d1) (FP.dsub (FP.dmul 4728779608772575232 d1) d1))), .second, .val (.double (FP.dsub d1 (FP.dsub (FP.dmul 4728779608772575232 d1) (FP.dsub (FP.dmul 4728779608772575232 d1) d1)))), .second] [(.double (FP.dmul (FP.dsub (FP.dmul 4728779608772575232 d0) (FP.dsub (FP.dmul 4728779608772575232 d0) d0)) (FP.dsub (FP.dmul 4728779608772575232 d1) (FP.dsub (FP.dmul 4728779608772575232 d1) d1))))])) _
    refine XS.dload X0.here hx rfl (hb hby d4_49) rfl ?_
    show Steps p.tables e below (s₁.setTop (mkF m 51 #[.val (.double d0), .second, .val (.double d1), .second, .val (.double d2), .second, .val (.double (FP.dmul 4728779608772575232 d0)), .second, .val (.double (FP.dsub (FP.dmul 4728779608772575232 d0) (FP.dsub (FP.dmul 4728779608772575232 d0) d0))), .second, .val (.double (FP.dsub d0 (FP.dsub (FP.dmul 4728779608772575232 d0) (FP.dsub (FP.dmul 4728779608772575232 d0) d0)))), .second, .val (.double (FP.dmul 4728779608772575232 d1)), .second, .val (.double (FP.dsub (FP.dmul 4728779608772575232 d1) (FP.dsub (FP.dmul 4728779608772575232 d1) d1))), .second, .val (.double (FP.dsub d1 (FP.dsub (FP.dmul 4728779608772575232 d1) (FP.dsub (FP.dmul 4728779608772575232 d1) d1)))), .second] [(.double d2), (.double (FP.dmul (FP.dsub (FP.dmul 4728779608772575232 d0) (FP.dsub (FP.dmul 4728779608772575232 d0) d0)) (FP.dsub (FP.dmul 4728779608772575232 d1) (FP.dsub (FP.dmul 4728779608772575232 d1) d1))))])) _
    refine XS.dsubS X0.here hx rfl (hb hby d4_51) rfl hn9 rfl ?_
    show Steps p.tables e below (s₁.setTop (mkF m 52 #[.val (.double d0), .second, .val (.double d1), .second, .val (.double d2), .second, .val (.double (FP.dmul 4728779608772575232 d0)), .second, .val (.double (FP.dsub (FP.dmul 4728779608772575232 d0) (FP.dsub (FP.dmul 4728779608772575232 d0) d0))), .second, .val (.double (FP.dsub d0 (FP.dsub (FP.dmul 4728779608772575232 d0) (FP.dsub (FP.dmul 4728779608772575232 d0) d0)))), .second, .val (.double (FP.dmul 4728779608772575232 d1)), .second, .val (.double (FP.dsub (FP.dmul 4728779608772575232 d1) (FP.dsub (FP.dmul 4728779608772575232 d1) d1))), .second, .val (.double (FP.dsub d1 (FP.dsub (FP.dmul 4728779608772575232 d1) (FP.dsub (FP.dmul 4728779608772575232 d1) d1)))), .second] [(.double (FP.dsub (FP.dmul (FP.dsub (FP.dmul 4728779608772575232 d0) (FP.dsub (FP.dmul 4728779608772575232 d0) d0)) (FP.dsub (FP.dmul 4728779608772575232 d1) (FP.dsub (FP.dmul 4728779608772575232 d1) d1))) d2))])) _
    refine XS.dload X0.here hx rfl (hb hby d4_52) rfl ?_
    show Steps p.tables e below (s₁.setTop (mkF m 54 #[.val (.double d0), .second, .val (.double d1), .second, .val (.double d2), .second, .val (.double (FP.dmul 4728779608772575232 d0)), .second, .val (.double (FP.dsub (FP.dmul 4728779608772575232 d0) (FP.dsub (FP.dmul 4728779608772575232 d0) d0))), .second, .val (.double (FP.dsub d0 (FP.dsub (FP.dmul 4728779608772575232 d0) (FP.dsub (FP.dmul 4728779608772575232 d0) d0)))), .second, .val (.double (FP.dmul 4728779608772575232 d1)), .second, .val (.double (FP.dsub (FP.dmul 4728779608772575232 d1) (FP.dsub (FP.dmul 4728779608772575232 d1) d1))), .second, .val (.double (FP.dsub d1 (FP.dsub (FP.dmul 4728779608772575232 d1) (FP.dsub (FP.dmul 4728779608772575232 d1) d1)))), .second] [(.double (FP.dsub (FP.dmul 4728779608772575232 d0) (FP.dsub (FP.dmul 4728779608772575232 d0) d0))), (.double (FP.dsub (FP.dmul (FP.dsub (FP.dmul 4728779608772575232 d0) (FP.dsub (FP.dmul 4728779608772575232 d0) d0)) (FP.dsub (FP.dmul 4728779608772575232 d1) (FP.dsub (FP.dmul 4728779608772575232 d1) d1))) d2))])) _
    refine XS.dload X0.here hx rfl (hb hby d4_54) rfl ?_
    show Steps p.tables e below (s₁.setTop (mkF m 56 #[.val (.double d0), .second, .val (.double d1), .second, .val (.double d2), .second, .val (.double (FP.dmul 4728779608772575232 d0)), .second, .val (.double (FP.dsub (FP.dmul 4728779608772575232 d0) (FP.dsub (FP.dmul 4728779608772575232 d0) d0))), .second, .val (.double (FP.dsub d0 (FP.dsub (FP.dmul 4728779608772575232 d0) (FP.dsub (FP.dmul 4728779608772575232 d0) d0)))), .second, .val (.double (FP.dmul 4728779608772575232 d1)), .second, .val (.double (FP.dsub (FP.dmul 4728779608772575232 d1) (FP.dsub (FP.dmul 4728779608772575232 d1) d1))), .second, .val (.double (FP.dsub d1 (FP.dsub (FP.dmul 4728779608772575232 d1) (FP.dsub (FP.dmul 4728779608772575232 d1) d1)))), .second] [(.double (FP.dsub d1 (FP.dsub (FP.dmul 4728779608772575232 d1) (FP.dsub (FP.dmul 4728779608772575232 d1) d1)))), (.double (FP.dsub (FP.dmul 4728779608772575232 d0) (FP.dsub (FP.dmul 4728779608772575232 d0) d0))), (.double (FP.dsub (FP.dmul (FP.dsub (FP.dmul 4728779608772575232 d0) (FP.dsub (FP.dmul 4728779608772575232 d0) d0)) (FP.dsub (FP.dmul 4728779608772575232 d1) (FP.dsub (FP.dmul 4728779608772575232 d1) d1))) d2))])) _
    refine XS.dmulS X0.here hx rfl (hb hby d4_56) rfl hn10 rfl ?_
    show Steps p.tables e below (s₁.setTop (mkF m 57 #[.val (.double d0), .second, .val (.double d1), .second, .val (.double d2), .second, .val (.double (FP.dmul 4728779608772575232 d0)), .second, .val (.double (FP.dsub (FP.dmul 4728779608772575232 d0) (FP.dsub (FP.dmul 4728779608772575232 d0) d0))), .second, .val (.double (FP.dsub d0 (FP.dsub (FP.dmul 4728779608772575232 d0) (FP.dsub (FP.dmul 4728779608772575232 d0) d0)))), .second, .val (.double (FP.dmul 4728779608772575232 d1)), .second, .val (.double (FP.dsub (FP.dmul 4728779608772575232 d1) (FP.dsub (FP.dmul 4728779608772575232 d1) d1))), .second, .val (.double (FP.dsub d1 (FP.dsub (FP.dmul 4728779608772575232 d1) (FP.dsub (FP.dmul 4728779608772575232 d1) d1)))), .second] [(.double (FP.dmul (FP.dsub (FP.dmul 4728779608772575232 d0) (FP.dsub (FP.dmul 4728779608772575232 d0) d0)) (FP.dsub d1 (FP.dsub (FP.dmul 4728779608772575232 d1) (FP.dsub (FP.dmul 4728779608772575232 d1) d1))))), (.double (FP.dsub (FP.dmul (FP.dsub (FP.dmul 4728779608772575232 d0) (FP.dsub (FP.dmul 4728779608772575232 d0) d0)) (FP.dsub (FP.dmul 4728779608772575232 d1) (FP.dsub (FP.dmul 4728779608772575232 d1) d1))) d2))])) _
    refine XS.daddS X0.here hx rfl (hb hby d4_57) rfl hn11 rfl ?_
    show Steps p.tables e below (s₁.setTop (mkF m 58 #[.val (.double d0), .second, .val (.double d1), .second, .val (.double d2), .second, .val (.double (FP.dmul 4728779608772575232 d0)), .second, .val (.double (FP.dsub (FP.dmul 4728779608772575232 d0) (FP.dsub (FP.dmul 4728779608772575232 d0) d0))), .second, .val (.double (FP.dsub d0 (FP.dsub (FP.dmul 4728779608772575232 d0) (FP.dsub (FP.dmul 4728779608772575232 d0) d0)))), .second, .val (.double (FP.dmul 4728779608772575232 d1)), .second, .val (.double (FP.dsub (FP.dmul 4728779608772575232 d1) (FP.dsub (FP.dmul 4728779608772575232 d1) d1))), .second, .val (.double (FP.dsub d1 (FP.dsub (FP.dmul 4728779608772575232 d1) (FP.dsub (FP.dmul 4728779608772575232 d1) d1)))), .second] [(.double (FP.dadd (FP.dsub (FP.dmul (FP.dsub (FP.dmul 4728779608772575232 d0) (FP.dsub (FP.dmul 4728779608772575232 d0) d0)) (FP.dsub (FP.dmul 4728779608772575232 d1) (FP.dsub (FP.dmul 4728779608772575232 d1) d1))) d2) (FP.dmul (FP.dsub (FP.dmul 4728779608772575232 d0) (FP.dsub (FP.dmul 4728779608772575232 d0) d0)) (FP.dsub d1 (FP.dsub (FP.dmul 4728779608772575232 d1) (FP.dsub (FP.dmul 4728779608772575232 d1) d1))))))])) _
    refine XS.dload X0.here hx rfl (hb hby d4_58) rfl ?_
    show Steps p.tables e below (s₁.setTop (mkF m 60 #[.val (.double d0), .second, .val (.double d1), .second, .val (.double d2), .second, .val (.double (FP.dmul 4728779608772575232 d0)), .second, .val (.double (FP.dsub (FP.dmul 4728779608772575232 d0) (FP.dsub (FP.dmul 4728779608772575232 d0) d0))), .second, .val (.double (FP.dsub d0 (FP.dsub (FP.dmul 4728779608772575232 d0) (FP.dsub (FP.dmul 4728779608772575232 d0) d0)))), .second, .val (.double (FP.dmul 4728779608772575232 d1)), .second, .val (.double (FP.dsub (FP.dmul 4728779608772575232 d1) (FP.dsub (FP.dmul 4728779608772575232 d1) d1))), .second, .val (.double (FP.dsub d1 (FP.dsub (FP.dmul 4728779608772575232 d1) (FP.dsub (FP.dmul 4728779608772575232 d1) d1)))), .second] [(.double (FP.dsub d0 (FP.dsub (FP.dmul 4728779608772575232 d0) (FP.dsub (FP.dmul 4728779608772575232 d0) d0)))), (.double (FP.dadd (FP.dsub (FP.dmul (FP.dsub (FP.dmul 4728779608772575232 d0) (FP.dsub (FP.dmul 4728779608772575232 d0) d0)) (FP.dsub (FP.dmul 4728779608772575232 d1) (FP.dsub (FP.dmul 4728779608772575232 d1) d1))) d2) (FP.dmul (FP.dsub (FP.dmul 4728779608772575232 d0) (FP.dsub (FP.dmul 4728779608772575232 d0) d0)) (FP.dsub d1 (FP.dsub (FP.dmul 4728779608772575232 d1) (FP.dsub (FP.dmul 4728779608772575232 d1) d1))))))])) _
    refine XS.dload X0.here hx rfl (hb hby d4_60) rfl ?_
    show Steps p.tables e below (s₁.setTop (mkF m 62 #[.val (.double d0), .second, .val (.double d1), .second, .val (.double d2), .second, .val (.double (FP.dmul 4728779608772575232 d0)), .second, .val (.double (FP.dsub (FP.dmul 4728779608772575232 d0) (FP.dsub (FP.dmul 4728779608772575232 d0) d0))), .second, .val (.double (FP.dsub d0 (FP.dsub (FP.dmul 4728779608772575232 d0) (FP.dsub (FP.dmul 4728779608772575232 d0) d0)))), .second, .val (.double (FP.dmul 4728779608772575232 d1)), .second, .val (.double (FP.dsub (FP.dmul 4728779608772575232 d1) (FP.dsub (FP.dmul 4728779608772575232 d1) d1))), .second, .val (.double (FP.dsub d1 (FP.dsub (FP.dmul 4728779608772575232 d1) (FP.dsub (FP.dmul 4728779608772575232 d1) d1)))), .second] [(.double (FP.dsub (FP.dmul 4728779608772575232 d1) (FP.dsub (FP.dmul 4728779608772575232 d1) d1))), (.double (FP.dsub d0 (FP.dsub (FP.dmul 4728779608772575232 d0) (FP.dsub (FP.dmul 4728779608772575232 d0) d0)))), (.double (FP.dadd (FP.dsub (FP.dmul (FP.dsub (FP.dmul 4728779608772575232 d0) (FP.dsub (FP.dmul 4728779608772575232 d0) d0)) (FP.dsub (FP.dmul 4728779608772575232 d1) (FP.dsub (FP.dmul 4728779608772575232 d1) d1))) d2) (FP.dmul (FP.dsub (FP.dmul 4728779608772575232 d0) (FP.dsub (FP.dmul 4728779608772575232 d0) d0)) (FP.dsub d1 (FP.dsub (FP.dmul 4728779608772575232 d1) (FP.dsub (FP.dmul 4728779608772575232 d1) d1))))))])) _
    refine XS.dmulS X0.here hx rfl (hb hby d4_62) rfl hn12 rfl ?_
    show Steps p.tables e below (s₁.setTop (mkF m 63 #[.val (.double d0), .second, .val (.double d1), .second, .val (.double d2), .second, .val (.double (FP.dmul 4728779608772575232 d0)), .second, .val (.double (FP.dsub (FP.dmul 4728779608772575232 d0) (FP.dsub (FP.dmul 4728779608772575232 d0) d0))), .second, .val (.double (FP.dsub d0 (FP.dsub (FP.dmul 4728779608772575232 d0) (FP.dsub (FP.dmul 4728779608772575232 d0) d0)))), .second, .val (.double (FP.dmul 4728779608772575232 d1)), .second, .val (.double (FP.dsub (FP.dmul 4728779608772575232 d1) (FP.dsub (FP.dmul 4728779608772575232 d1) d1))), .second, .val (.double (FP.dsub d1 (FP.dsub (FP.dmul 4728779608772575232 d1) (FP.dsub (FP.dmul 4728779608772575232 d1) d1)))), .second] [(.double (FP.dmul (FP.dsub d0 (FP.dsub (FP.dmul 4728779608772575232 d0) (FP.dsub (FP.dmul 4728779608772575232 d0) d0))) (FP.dsub (FP.dmul 4728779608772575232 d1) (FP.dsub (FP.dmul 4728779608772575232 d1) d1)))), (.double (FP.dadd (FP.dsub (FP.dmul (FP.dsub (FP.dmul 4728779608772575232 d0) (FP.dsub (FP.dmul 4728779608772575232 d0) d0)) (FP.dsub (FP.dmul 4728779608772575232 d1) (FP.dsub (FP.dmul 4728779608772575232 d1) d1))) d2) (FP.dmul (FP.dsub (FP.dmul 4728779608772575232 d0) (FP.dsub (FP.dmul 4728779608772575232 d0) d0)) (FP.dsub d1 (FP.dsub (FP.dmul 4728779608772575232 d1) (FP.dsub (FP.dmul 4728779608772575232 d1) d1))))))])) _
    refine XS.daddS X0.here hx rfl (hb hby d4_63) rfl hn13 rfl ?_
    show Steps p.tables e below (s₁.setTop (mkF m 64 #[.val (.double d0), .second, .val (.double d1), .second, .val (.double d2), .second, .val (.double (FP.dmul 4728779608772575232 d0)), .second, .val (.double (FP.dsub (FP.dmul 4728779608772575232 d0) (FP.dsub (FP.dmul 4728779608772575232 d0) d0))), .second, .val (.double (FP.dsub d0 (FP.dsub (FP.dmul 4728779608772575232 d0) (FP.dsub (FP.dmul 4728779608772575232 d0) d0)))), .second, .val (.double (FP.dmul 4728779608772575232 d1)), .second, .val (.double (FP.dsub (FP.dmul 4728779608772575232 d1) (FP.dsub (FP.dmul 4728779608772575232 d1) d1))), .second, .val (.double (FP.dsub d1 (FP.dsub (FP.dmul 4728779608772575232 d1) (FP.dsub (FP.dmul 4728779608772575232 d1) d1)))), .second] [(.double (FP.dadd (FP.dadd (FP.dsub (FP.dmul (FP.dsub (FP.dmul 4728779608772575232 d0) (FP.dsub (FP.dmul 4728779608772575232 d0) d0)) (FP.dsub (FP.dmul 4728779608772575232 d1) (FP.dsub (FP.dmul 4728779608772575232 d1) d1))) d2) (FP.dmul (FP.dsub (FP.dmul 4728779608772575232 d0) (FP.dsub (FP.dmul 4728779608772575232 d0) d0)) (FP.dsub d1 (FP.dsub (FP.dmul 4728779608772575232 d1) (FP.dsub (FP.dmul 4728779608772575232 d1) d1))))) (FP.dmul (FP.dsub d0 (FP.dsub (FP.dmul 4728779608772575232 d0) (FP.dsub (FP.dmul 4728779608772575232 d0) d0))) (FP.dsub (FP.dmul 4728779608772575232 d1) (FP.dsub (FP.dmul 4728779608772575232 d1) d1)))))])) _
    refine XS.dload X0.here hx rfl (hb hby d4_64) rfl ?_
    show Steps p.tables e below (s₁.setTop (mkF m 66 #[.val (.double d0), .second, .val (.double d1), .second, .val (.double d2), .second, .val (.double (FP.dmul 4728779608772575232 d0)), .second, .val (.double (FP.dsub (FP.dmul 4728779608772575232 d0) (FP.dsub (FP.dmul 4728779608772575232 d0) d0))), .second, .val (.double (FP.dsub d0 (FP.dsub (FP.dmul 4728779608772575232 d0) (FP.dsub (FP.dmul 4728779608772575232 d0) d0)))), .second, .val (.double (FP.dmul 4728779608772575232 d1)), .second, .val (.double (FP.dsub (FP.dmul 4728779608772575232 d1) (FP.dsub (FP.dmul 4728779608772575232 d1) d1))), .second, .val (.double (FP.dsub d1 (FP.dsub (FP.dmul 4728779608772575232 d1) (FP.dsub (FP.dmul 4728779608772575232 d1) d1)))), .second] [(.double (FP.dsub d0 (FP.dsub (FP.dmul 4728779608772575232 d0) (FP.dsub (FP.dmul 4728779608772575232 d0) d0)))), (.double (FP.dadd (FP.dadd (FP.dsub (FP.dmul (FP.dsub (FP.dmul 4728779608772575232 d0) (FP.dsub (FP.dmul 4728779608772575232 d0) d0)) (FP.dsub (FP.dmul 4728779608772575232 d1) (FP.dsub (FP.dmul 4728779608772575232 d1) d1))) d2) (FP.dmul (FP.dsub (FP.dmul 4728779608772575232 d0) (FP.dsub (FP.dmul 4728779608772575232 d0) d0)) (FP.dsub d1 (FP.dsub (FP.dmul 4728779608772575232 d1) (FP.dsub (FP.dmul 4728779608772575232 d1) d1))))) (FP.dmul (FP.dsub d0 (FP.dsub (FP.dmul 4728779608772575232 d0) (FP.dsub (FP.dmul 4728779608772575232 d0) d0))) (FP.dsub (FP.dmul 4728779608772575232 d1) (FP.dsub (FP.dmul 4728779608772575232 d1) d1)))))])) _
    refine XS.dload X0.here hx rfl (hb hby d4_66) rfl ?_
    show Steps p.tables e below (s₁.setTop (mkF m 68 #[.val (.double d0), .second, .val (.double d1), .second, .val (.double d2), .second, .val (.double (FP.dmul 4728779608772575232 d0)), .second, .val (.double (FP.dsub (FP.dmul 4728779608772575232 d0) (FP.dsub (FP.dmul 4728779608772575232 d0) d0))), .second, .val (.double (FP.dsub d0 (FP.dsub (FP.dmul 4728779608772575232 d0) (FP.dsub (FP.dmul 4728779608772575232 d0) d0)))), .second, .val (.double (FP.dmul 4728779608772575232 d1)), .second, .val (.double (FP.dsub (FP.dmul 4728779608772575232 d1) (FP.dsub (FP.dmul 4728779608772575232 d1) d1))), .second, .val (.double (FP.dsub d1 (FP.dsub (FP.dmul 4728779608772575232 d1) (FP.dsub (FP.dmul 4728779608772575232 d1) d1)))), .second] [(.double (FP.dsub d1 (FP.dsub (FP.dmul 4728779608772575232 d1) (FP.dsub (FP.dmul 4728779608772575232 d1) d1)))), (.double (FP.dsub d0 (FP.dsub (FP.dmul 4728779608772575232 d0) (FP.dsub (FP.dmul 4728779608772575232 d0) d0)))), (.double (FP.dadd (FP.dadd (FP.dsub (FP.dmul (FP.dsub (FP.dmul 4728779608772575232 d0) (FP.dsub (FP.dmul 4728779608772575232 d0) d0)) (FP.dsub (FP.dmul 4728779608772575232 d1) (FP.dsub (FP.dmul 4728779608772575232 d1) d1))) d2) (FP.dmul (FP.dsub (FP.dmul 4728779608772575232 d0) (FP.dsub (FP.dmul 4728779608772575232 d0) d0)) (FP.dsub d1 (FP.dsub (FP.dmul 4728779608772575232 d1) (FP.dsub (FP.dmul 4728779608772575232 d1) d1))))) (FP.dmul (FP.dsub d0 (FP.dsub (FP.dmul 4728779608772575232 d0) (FP.dsub (FP.dmul 4728779608772575232 d0) d0))) (FP.dsub (FP.dmul 4728779608772575232 d1) (FP.dsub (FP.dmul 4728779608772575232 d1) d1)))))])) _
    refine XS.dmulS X0.here hx rfl (hb hby d4_68) rfl hn14 rfl ?_
    show Steps p.tables e below (s₁.setTop (mkF m 69 #[.val (.double d0), .second, .val (.double d1), .second, .val (.double d2), .second, .val (.double (FP.dmul 4728779608772575232 d0)), .second, .val (.double (FP.dsub (FP.dmul 4728779608772575232 d0) (FP.dsub (FP.dmul 4728779608772575232 d0) d0))), .second, .val (.double (FP.dsub d0 (FP.dsub (FP.dmul 4728779608772575232 d0) (FP.dsub (FP.dmul 4728779608772575232 d0) d0)))), .second, .val (.double (FP.dmul 4728779608772575232 d1)), .second, .val (.double (FP.dsub (FP.dmul 4728779608772575232 d1) (FP.dsub (FP.dmul 4728779608772575232 d1) d1))), .second, .val (.double (FP.dsub d1 (FP.dsub (FP.dmul 4728779608772575232 d1) (FP.dsub (FP.dmul 4728779608772575232 d1) d1)))), .second] [(.double (FP.dmul (FP.dsub d0 (FP.dsub (FP.dmul 4728779608772575232 d0) (FP.dsub (FP.dmul 4728779608772575232 d0) d0))) (FP.dsub d1 (FP.dsub (FP.dmul 4728779608772575232 d1) (FP.dsub (FP.dmul 4728779608772575232 d1) d1))))), (.double (FP.dadd (FP.dadd (FP.dsub (FP.dmul (FP.dsub (FP.dmul 4728779608772575232 d0) (FP.dsub (FP.dmul 4728779608772575232 d0) d0)) (FP.dsub (FP.dmul 4728779608772575232 d1) (FP.dsub (FP.dmul 4728779608772575232 d1) d1))) d2) (FP.dmul (FP.dsub (FP.dmul 4728779608772575232 d0) (FP.dsub (FP.dmul 4728779608772575232 d0) d0)) (FP.dsub d1 (FP.dsub (FP.dmul 4728779608772575232 d1) (FP.dsub (FP.dmul 4728779608772575232 d1) d1))))) (FP.dmul (FP.dsub d0 (FP.dsub (FP.dmul 4728779608772575232 d0) (FP.dsub (FP.dmul 4728779608772575232 d0) d0))) (FP.dsub (FP.dmul 4728779608772575232 d1) (FP.dsub (FP.dmul 4728779608772575232 d1) d1)))))])) _
    refine XS.daddS X0.here hx rfl (hb hby d4_69) rfl hn15 rfl ?_
    show Steps p.tables e below (s₁.setTop (mkF m 70 #[.val (.double d0), .second, .val (.double d1), .second, .val (.double d2), .second, .val (.double (FP.dmul 4728779608772575232 d0)), .second, .val (.double (FP.dsub (FP.dmul 4728779608772575232 d0) (FP.dsub (FP.dmul 4728779608772575232 d0) d0))), .second, .val (.double (FP.dsub d0 (FP.dsub (FP.dmul 4728779608772575232 d0) (FP.dsub (FP.dmul 4728779608772575232 d0) d0)))), .second, .val (.double (FP.dmul 4728779608772575232 d1)), .second, .val (.double (FP.dsub (FP.dmul 4728779608772575232 d1) (FP.dsub (FP.dmul 4728779608772575232 d1) d1))), .second, .val (.double (FP.dsub d1 (FP.dsub (FP.dmul 4728779608772575232 d1) (FP.dsub (FP.dmul 4728779608772575232 d1) d1)))), .second] [(.double (FP.dadd (FP.dadd (FP.dadd (FP.dsub (FP.dmul (FP.dsub (FP.dmul 4728779608772575232 d0) (FP.dsub (FP.dmul 4728779608772575232 d0) d0)) (FP.dsub (FP.dmul 4728779608772575232 d1) (FP.dsub (FP.dmul 4728779608772575232 d1) d1))) d2) (FP.dmul (FP.dsub (FP.dmul 4728779608772575232 d0) (FP.dsub (FP.dmul 4728779608772575232 d0) d0)) (FP.dsub d1 (FP.dsub (FP.dmul 4728779608772575232 d1) (FP.dsub (FP.dmul 4728779608772575232 d1) d1))))) (FP.dmul (FP.dsub d0 (FP.dsub (FP.dmul 4728779608772575232 d0) (FP.dsub (FP.dmul 4728779608772575232 d0) d0))) (FP.dsub (FP.dmul 4728779608772575232 d1) (FP.dsub (FP.dmul 4728779608772575232 d1) d1)))) (FP.dmul (FP.dsub d0 (FP.dsub (FP.dmul 4728779608772575232 d0) (FP.dsub (FP.dmul 4728779608772575232 d0) d0))) (FP.dsub d1 (FP.dsub (FP.dmul 4728779608772575232 d1) (FP.dsub (FP.dmul 4728779608772575232 d1) d1))))))])) _
    exact retOut X0 hx Bd.returns rfl (Or.inr (Or.inr (Or.inl ⟨rfl, rfl, _, rfl⟩))) (hb hby d4_70) hr
  · show Q4 Z d0 d1 d2 h0 n0 _ s₁.heap _
    rw [e0]
    exact ⟨rfl, N0, rfl⟩
theorem d5_0 : decode prog_43_method_13_code 0 = .ok (.dload_n 2, 1) := by decide +kernel
theorem d5_1 : decode prog_43_method_13_code 1 = .ok (.dload 4, 2) := by decide +kernel
theorem d5_3 : decode prog_43_method_13_code 3 = .ok (.dadd, 1) := by decide +kernel
theorem d5_4 : decode prog_43_method_13_code 4 = .ok (.dstore 6, 2) := by decide +kernel
theorem d5_6 : decode prog_43_method_13_code 6 = .ok (.aload_n 0, 1) := by decide +kernel
theorem d5_7 : decode prog_43_method_13_code 7 = .ok (.getfield 7, 3) := by decide +kernel
theorem d5_10 : decode prog_43_method_13_code 10 = .ok (.iload_n 1, 1) := by decide +kernel
theorem d5_11 : decode prog_43_method_13_code 11 = .ok (.dload 6, 2) := by decide +kernel
theorem d5_13 : decode prog_43_method_13_code 13 = .ok (.dastore, 1) := by decide +kernel
theorem d5_14 : decode prog_43_method_13_code 14 = .ok (.aload_n 0, 1) := by decide +kernel
theorem d5_15 : decode prog_43_method_13_code 15 = .ok (.getfield 13, 3) := by decide +kernel
theorem d5_18 : decode prog_43_method_13_code 18 = .ok (.iload_n 1, 1) := by decide +kernel
theorem d5_19 : decode prog_43_method_13_code 19 = .ok (.dload_n 2, 1) := by decide +kernel
theorem d5_20 : decode prog_43_method_13_code 20 = .ok (.dload 4, 2) := by decide +kernel
theorem d5_22 : decode prog_43_method_13_code 22 = .ok (.dload 6, 2) := by decide +kernel
theorem d5_24 : decode prog_43_method_13_code 24 = .ok (.invokestatic 30, 3) := by decide +kernel
theorem pd_0 : parseMethodDescriptor "(DDD)D" = some ⟨[.double, .double, .double], some .double⟩ := by decide +kernel
theorem d5_27 : decode prog_43_method_13_code 27 = .ok (.dastore, 1) := by decide +kernel
theorem d5_28 : decode prog_43_method_13_code 28 = .ok (.return_, 1) := by decide +kernel
def ok5_0 (d2 d3 : UInt64) : Prop := Jvm.Free.Fl.NoNaN64 (FP.dadd d2 d3) ∧ ok6 d2 d3 (FP.dadd d2 d3) ∧ True
def Q_setNormalised_0 (Z : State) (r0 : Addr) (d2 : UInt64) (d3 : UInt64) (hA lA : Addr) (kH kL : ClassId) (ua ub va vb : UInt64) (h0 : Heap) (n0 : Nat) (v : Option Value) (h : Heap) (L : List Loc) : Prop := v = none ∧ Fr n0 L ∧ Keep h0 h [hA, lA] ∧ Arv Z h hA kH .double (2 : Int32) [(.double (FP.dadd d2 d3)), (.double ub)] (.double 0) ∧ Arv Z h lA kL .double (2 : Int32) [(.double (own_f6 d2 d3 (FP.dadd d2 d3))), (.double vb)] (.double 0)
theorem ef_rm_setNormalised_0 (m : MethodId) (x0 : Addr) (x1 : Int32) (x2 : UInt64) (x3 : UInt64) : entryFrame m #[(.ref x0), (.int x1), (.double x2), (.double x3)] 8 = mkF m 0 #[.val (.ref x0), .val (.int x1), .val (.double x2), .second, .val (.double x3), .second, .unset, .unset] [] := by first | (simp [entryFrame, mkF, argsToLocals, Value.category]; done) | rfl
set_option maxRecDepth 65536 in
set_option maxHeartbeats 40000000 in
theorem rm_setNormalised_0 (l : Launch) (Z : State) (a0 : Array Value) (hw : ∀ d ∈ tables_1, d.before a0 Z = true) (ws : List Jvm.Cond) (r0 : Addr) (d2 : UInt64) (d3 : UInt64) (hA lA : Addr) (kH kL : ClassId) (ua ub va vb : UInt64) (h0 : Heap) (n0 : Nat) (Z0 : n0 ≤ h0.size) (E0 : Exa Z h0 r0 "com/example/degree/degree/retrieval/DoubleDoubles") (Fh : Fld Z h0 r0 "com/example/degree/degree/retrieval/DoubleDoubles" "high" "[D" (.ref hA)) (Fl : Fld Z h0 r0 "com/example/degree/degree/retrieval/DoubleDoubles" "low" "[D" (.ref lA)) (Ah : Arv Z h0 hA kH .double (2 : Int32) [(.double ua), (.double ub)] (.double 0)) (Al : Arv Z h0 lA kL .double (2 : Int32) [(.double va), (.double vb)] (.double 0)) (g_hA : n0 ≤ hA) (g_lA : n0 ≤ lA) (hne : hA ≠ lA) (hz1 : r0 ≠ hA) (hz2 : r0 ≠ lA) (hok : ok5_0 d2 d3) :
    MetFree l (⟨"com/example/degree/degree/retrieval/DoubleDoubles", "setNormalised", "(IDD)V"⟩ : MethodName) (head1 (Jvm.Cond.code (⟨"com/example/degree/degree/retrieval/DoubleDoubles", "setNormalised", "(IDD)V"⟩ : MethodName) prog_43_method_13_code 8 none :: ws) ({ frames := 1, cells := 0, slots := 0, locals := 23 } : Room)) (fun a U => a = #[(.ref r0), (.int (0 : Int32)), (.double d2), (.double d3)] ∧ Z.Warmed39 U.vm ∧ U.heap = h0) (fun _ _ _ _ _ => True) (fun _ U o U' => ∃ v L, o = .returned v ∧ Q_setNormalised_0 Z r0 d2 d3 hA lA kH kL ua ub va vb h0 n0 v U'.heap L ∧ FrameEnd U o U' L ({ frames := 1, cells := 0, slots := 0, locals := 23 } : Room).cells ({ frames := 1, cells := 0, slots := 0, locals := 23 } : Room).slots) := by
  refine MetFree.of_bodySF (plainFor_of_name pnc_com_example_degree_degree_retrieval_DoubleDoubles) hisR ?_
  intro p e s m args below meth c s₁ Bd hml0 hP hK
  obtain ⟨rfl, hZ, hh⟩ := hP
  have hx := Bd.exec
  have hby := Bd.bytes
  have hml : c.maxLocals = 8 := hml0
  have hown : s.vm.findClass "com/example/degree/degree/retrieval/DoubleDoubles" = some m.cls := findClass_of_methodNamed Bd.named
  have hnm := (name_of_methodNamed Bd.named Bd.method).1
  have X0 : Stand p l e ({ frames := 1, cells := 0, slots := 0, locals := 23 } : Room) s m #[(.ref r0), (.int (0 : Int32)), (.double d2), (.double d3)] below meth c s₁ [] 0 0 := Stand.of_body Bd
  have e0 : s₁.heap = h0 := by rw [← hh, Bd.state]; rfl
  have N0 := Fr.nil n0
  have kp0 : Keep h0 h0 [hA, lA] := Keep.refl _ _
  have G0 : ∀ t, Steps p.tables e below (s₁.setTop (mkF m 0 #[.val (.ref r0), .val (.int (0 : Int32)), .val (.double d2), .second, .val (.double d3), .second, .unset, .unset] [])) t → Steps p.tables e below (s₁.setTop (entryFrame m #[(.ref r0), (.int (0 : Int32)), (.double d2), (.double d3)] 8)) t := fun t k => castTop (ef_rm_setNormalised_0 m r0 (0 : Int32) d2 d3) k
  obtain ⟨hn0, hn1, -⟩ := hok
  obtain ⟨T1, X1, e1, st1⟩ := getF X0 hx hZ hown (host := "") (Or.inl (hq hw 13 rfl)) Via.refl e0 Fh (g := (mkF m 7 #[.val (.ref r0), .val (.int (0 : Int32)), .val (.double d2), .second, .val (.double d3), .second, .val (.double (FP.dadd d2 d3)), .second] [(.ref r0)])) rfl rfl (hb hby d5_7)
  obtain ⟨cl2, Ar2, q2, S2, M2, H2, G2⟩ := id Ah
  have hin2 : ¬ ((0 : Int32) < 0 ∨ cl2.slots.size ≤ ((0 : Int32)).toNatClampNeg) := inb_of S2 ⟨by decide, by decide⟩
  obtain ⟨T3, h3, X3, e3, W3, st3⟩ := stD X1 hx hZ e1 Ar2 (j := (0 : Int32)) hin2 (g := (mkF m 13 #[.val (.ref r0), .val (.int (0 : Int32)), .val (.double d2), .second, .val (.double d3), .second, .val (.double (FP.dadd d2 d3)), .second] [(.double (FP.dadd d2 d3)), (.int (0 : Int32)), (.ref hA)])) rfl rfl (hb hby d5_13)
  have fa4 := E0.wr W3
  have fa5 := Fh.other W3 (Or.inl hz1)
  have fa6 := Fl.other W3 (Or.inl hz1)
  have fa7 := Al.other W3 (Ne.symm hne)
  have z8 : n0 ≤ h3.size := Nat.le_trans Z0 (Nat.le_of_eq W3.size.symm)
  have kp9 : Keep h0 h3 [hA, lA] := kp0.wr W3 (Or.inl (List.mem_of_getElem? (i := 0) rfl))
  have fa10 : Arv Z h3 hA kH .double (2 : Int32) [(.double (FP.dadd d2 d3)), (.double ub)] (.double 0) := Arv.set Ar2 q2 S2 M2 H2 G2 rfl W3 0 rfl (Nat.le_of_ble_eq_true rfl)
  have N3 := Fr.snoc X3 N0 g_hA
  obtain ⟨T11, X11, e11, st11⟩ := getF X3 hx hZ hown (host := "") (Or.inl (hq hw 15 rfl)) Via.refl e3 fa6 (g := (mkF m 15 #[.val (.ref r0), .val (.int (0 : Int32)), .val (.double d2), .second, .val (.double d3), .second, .val (.double (FP.dadd d2 d3)), .second] [(.ref r0)])) rfl rfl (hb hby d5_15)
  obtain ⟨_, _, ⟨T12, L12, k12, n12⟩, -, X12, ⟨Lc12, hQ12, l12, y12, z12⟩, st12⟩ := Jvm.LawKit.callS X11 hx (y := (⟨"com/example/degree/degree/retrieval/DoubleDoubles", "twoSumError", "(DDD)D"⟩ : MethodName)) hown (mvT hZ (hq hw 30 rfl)) (mvT hZ (hq hw 31 rfl)) (mvT hZ (hq hw 5 rfl)) (mvT hZ (hq hw 32 rfl)) (by decide) (backOf (W := 2) (rm6 l Z a0 hw [] d2 d3 (FP.dadd d2 d3)  h3 n0 z8 hn1) hZ (hq hw 32 rfl) (hq hw 5 rfl) (by decide) (by decide)) (g := (mkF m 24 #[.val (.ref r0), .val (.int (0 : Int32)), .val (.double d2), .second, .val (.double d3), .second, .val (.double (FP.dadd d2 d3)), .second] [(.double (FP.dadd d2 d3)), (.double d3), (.double d2), (.int (0 : Int32)), (.ref lA)])) rfl (by rw [hml]; rfl) (argsL := [(.double d2), (.double d3), (.double (FP.dadd d2 d3))]) (rest := [(.int (0 : Int32)), (.ref lA)]) (lenOf pd_0 rfl) rfl (by show 2 * 0 + _ ≤ _; exact Nat.le_of_eq rfl) (hb hby d5_24) (fun _ _ => ⟨rfl, e11, (by decide : 0 + 0 ≤ _), (by decide : 0 + 0 ≤ _)⟩)
  dsimp only [Pt.U, Pt.locs, Pt.cells, Pt.slots] at X12 l12 y12 z12 st12 hQ12
  subst l12 y12 z12
  obtain ⟨rfl, N12q, eh12⟩ := hQ12
  have N12 := Fr.app N3 N12q
  obtain ⟨cl13, Ar13, q13, S13, M13, H13, G13⟩ := id fa7
  have hin13 : ¬ ((0 : Int32) < 0 ∨ cl13.slots.size ≤ ((0 : Int32)).toNatClampNeg) := inb_of S13 ⟨by decide, by decide⟩
  obtain ⟨T14, h14, X14, e14, W14, st14⟩ := stD X12 hx hZ eh12 Ar13 (j := (0 : Int32)) hin13 (g := (mkF m 27 #[.val (.ref r0), .val (.int (0 : Int32)), .val (.double d2), .second, .val (.double d3), .second, .val (.double (FP.dadd d2 d3)), .second] [(.double (own_f6 d2 d3 (FP.dadd d2 d3))), (.int (0 : Int32)), (.ref lA)])) rfl rfl (hb hby d5_27)
  have fa15 := fa4.wr W14
  have fa16 := fa5.other W14 (Or.inl hz2)
  have fa17 := fa6.other W14 (Or.inl hz2)
  have fa18 := fa10.other W14 hne
  have z19 : n0 ≤ h14.size := Nat.le_trans z8 (Nat.le_of_eq W14.size.symm)
  have kp20 : Keep h0 h14 [hA, lA] := kp9.wr W14 (Or.inl (List.mem_of_getElem? (i := 1) rfl))
  have fa21 : Arv Z h14 lA kL .double (2 : Int32) [(.double (own_f6 d2 d3 (FP.dadd d2 d3))), (.double vb)] (.double 0) := Arv.set Ar13 q13 S13 M13 H13 G13 rfl W14 0 rfl (Nat.le_of_ble_eq_true rfl)
  have N14 := Fr.snoc X14 N12 g_lA
  obtain ⟨fs, hr, hrun, hended, hW, hsame⟩ := X14.leave (v := none) (fun _ => rfl)
  refine ⟨_, _, G0 _ ?_, hrun, hended, _, _, rfl, ?_, ⟨_, rfl⟩, hW, hsame.mono (by decide) (by decide)⟩
  · skip
    show Steps p.tables e below (s₁.setTop (mkF m 0 #[.val (.ref r0), .val (.int (0 : Int32)), .val (.double d2), .second, .val (.double d3), .second, .unset, .unset] [])) _
    refine XS.dloadN X0.here hx rfl (hb hby d5_0) rfl ?_
    show Steps p.tables e below (s₁.setTop (mkF m 1 #[.val (.ref r0), .val (.int (0 : Int32)), .val (.double d2), .second, .val (.double d3), .second, .unset, .unset] [(.double d2)])) _
    refine XS.dload X0.here hx rfl (hb hby d5_1) rfl ?_
    show Steps p.tables e below (s₁.setTop (mkF m 3 #[.val (.ref r0), .val (.int (0 : Int32)), .val (.double d2), .second, .val (.double d3), .second, .unset, .unset] [(.double d3), (.double d2)])) _
    refine XS.daddS X0.here hx rfl (hb hby d5_3) rfl hn0 rfl ?_
    show Steps p.tables e below (s₁.setTop (mkF m 4 #[.val (.ref r0), .val (.int (0 : Int32)), .val (.double d2), .second, .val (.double d3), .second, .unset, .unset] [(.double (FP.dadd d2 d3))])) _
    refine XS.dstore X0.here hx rfl (hb hby d5_4) rfl (l' := #[.val (.ref r0), .val (.int (0 : Int32)), .val (.double d2), .second, .val (.double d3), .second, .val (.double (FP.dadd d2 d3)), .second]) rfl ?_
    show Steps p.tables e below (s₁.setTop (mkF m 6 #[.val (.ref r0), .val (.int (0 : Int32)), .val (.double d2), .second, .val (.double d3), .second, .val (.double (FP.dadd d2 d3)), .second] [])) _
    refine XS.aloadN X0.here hx rfl (hb hby d5_6) rfl rfl ?_
    show Steps p.tables e below (s₁.setTop (mkF m 7 #[.val (.ref r0), .val (.int (0 : Int32)), .val (.double d2), .second, .val (.double d3), .second, .val (.double (FP.dadd d2 d3)), .second] [(.ref r0)])) _
    refine st1 _ ?_
    show Steps p.tables e below (T1.setTop (mkF m 10 #[.val (.ref r0), .val (.int (0 : Int32)), .val (.double d2), .second, .val (.double d3), .second, .val (.double (FP.dadd d2 d3)), .second] [(.ref hA)])) _
    refine XS.iloadN X1.here hx rfl (hb hby d5_10) rfl ?_
    show Steps p.tables e below (T1.setTop (mkF m 11 #[.val (.ref r0), .val (.int (0 : Int32)), .val (.double d2), .second, .val (.double d3), .second, .val (.double (FP.dadd d2 d3)), .second] [(.int (0 : Int32)), (.ref hA)])) _
    refine XS.dload X1.here hx rfl (hb hby d5_11) rfl ?_
    show Steps p.tables e below (T1.setTop (mkF m 13 #[.val (.ref r0), .val (.int (0 : Int32)), .val (.double d2), .second, .val (.double d3), .second, .val (.double (FP.dadd d2 d3)), .second] [(.double (FP.dadd d2 d3)), (.int (0 : Int32)), (.ref hA)])) _
    refine st3 _ ?_
    show Steps p.tables e below (T3.setTop (mkF m 14 #[.val (.ref r0), .val (.int (0 : Int32)), .val (.double d2), .second, .val (.double d3), .second, .val (.double (FP.dadd d2 d3)), .second] [])) _
    refine XS.aloadN X3.here hx rfl (hb hby d5_14) rfl rfl ?_
    show Steps p.tables e below (T3.setTop (mkF m 15 #[.val (.ref r0), .val (.int (0 : Int32)), .val (.double d2), .second, .val (.double d3), .second, .val (.double (FP.dadd d2 d3)), .second] [(.ref r0)])) _
    refine st11 _ ?_
    show Steps p.tables e below (T11.setTop (mkF m 18 #[.val (.ref r0), .val (.int (0 : Int32)), .val (.double d2), .second, .val (.double d3), .second, .val (.double (FP.dadd d2 d3)), .second] [(.ref lA)])) _
    refine XS.iloadN X11.here hx rfl (hb hby d5_18) rfl ?_
    show Steps p.tables e below (T11.setTop (mkF m 19 #[.val (.ref r0), .val (.int (0 : Int32)), .val (.double d2), .second, .val (.double d3), .second, .val (.double (FP.dadd d2 d3)), .second] [(.int (0 : Int32)), (.ref lA)])) _
    refine XS.dloadN X11.here hx rfl (hb hby d5_19) rfl ?_
    show Steps p.tables e below (T11.setTop (mkF m 20 #[.val (.ref r0), .val (.int (0 : Int32)), .val (.double d2), .second, .val (.double d3), .second, .val (.double (FP.dadd d2 d3)), .second] [(.double d2), (.int (0 : Int32)), (.ref lA)])) _
    refine XS.dload X11.here hx rfl (hb hby d5_20) rfl ?_
    show Steps p.tables e below (T11.setTop (mkF m 22 #[.val (.ref r0), .val (.int (0 : Int32)), .val (.double d2), .second, .val (.double d3), .second, .val (.double (FP.dadd d2 d3)), .second] [(.double d3), (.double d2), (.int (0 : Int32)), (.ref lA)])) _
    refine XS.dload X11.here hx rfl (hb hby d5_22) rfl ?_
    show Steps p.tables e below (T11.setTop (mkF m 24 #[.val (.ref r0), .val (.int (0 : Int32)), .val (.double d2), .second, .val (.double d3), .second, .val (.double (FP.dadd d2 d3)), .second] [(.double (FP.dadd d2 d3)), (.double d3), (.double d2), (.int (0 : Int32)), (.ref lA)])) _
    refine st12 _ ?_
    show Steps p.tables e below (T12.setTop (mkF m 27 #[.val (.ref r0), .val (.int (0 : Int32)), .val (.double d2), .second, .val (.double d3), .second, .val (.double (FP.dadd d2 d3)), .second] [(.double (own_f6 d2 d3 (FP.dadd d2 d3))), (.int (0 : Int32)), (.ref lA)])) _
    refine st14 _ ?_
    show Steps p.tables e below (T14.setTop (mkF m 28 #[.val (.ref r0), .val (.int (0 : Int32)), .val (.double d2), .second, .val (.double d3), .second, .val (.double (FP.dadd d2 d3)), .second] [])) _
    exact X14.returnOut hx Bd.returns (hb hby d5_28) hr
  · show Q_setNormalised_0 Z r0 d2 d3 hA lA kH kL ua ub va vb h0 n0 _ T14.heap _
    rw [e14]
    exact ⟨rfl, N14, kp20, fa18, fa21⟩
def ok5_1 (d2 d3 : UInt64) : Prop := Jvm.Free.Fl.NoNaN64 (FP.dadd d2 d3) ∧ ok6 d2 d3 (FP.dadd d2 d3) ∧ True
def Q_setNormalised_1 (Z : State) (r0 : Addr) (d2 : UInt64) (d3 : UInt64) (hA lA : Addr) (kH kL : ClassId) (ua ub va vb : UInt64) (h0 : Heap) (n0 : Nat) (v : Option Value) (h : Heap) (L : List Loc) : Prop := v = none ∧ Fr n0 L ∧ Keep h0 h [hA, lA] ∧ Arv Z h hA kH .double (2 : Int32) [(.double ua), (.double (FP.dadd d2 d3))] (.double 0) ∧ Arv Z h lA kL .double (2 : Int32) [(.double va), (.double (own_f6 d2 d3 (FP.dadd d2 d3)))] (.double 0)
theorem ef_rm_setNormalised_1 (m : MethodId) (x0 : Addr) (x1 : Int32) (x2 : UInt64) (x3 : UInt64) : entryFrame m #[(.ref x0), (.int x1), (.double x2), (.double x3)] 8 = mkF m 0 #[.val (.ref x0), .val (.int x1), .val (.double x2), .second, .val (.double x3), .second, .unset, .unset] [] := by first | (simp [entryFrame, mkF, argsToLocals, Value.category]; done) | rfl
set_option maxRecDepth 65536 in
set_option maxHeartbeats 40000000 in
theorem rm_setNormalised_1 (l : Launch) (Z : State) (a0 : Array Value) (hw : ∀ d ∈ tables_1, d.before a0 Z = true) (ws : List Jvm.Cond) (r0 : Addr) (d2 : UInt64) (d3 : UInt64) (hA lA : Addr) (kH kL : ClassId) (ua ub va vb : UInt64) (h0 : Heap) (n0 : Nat) (Z0 : n0 ≤ h0.size) (E0 : Exa Z h0 r0 "com/example/degree/degree/retrieval/DoubleDoubles") (Fh : Fld Z h0 r0 "com/example/degree/degree/retrieval/DoubleDoubles" "high" "[D" (.ref hA)) (Fl : Fld Z h0 r0 "com/example/degree/degree/retrieval/DoubleDoubles" "low" "[D" (.ref lA)) (Ah : Arv Z h0 hA kH .double (2 : Int32) [(.double ua), (.double ub)] (.double 0)) (Al : Arv Z h0 lA kL .double (2 : Int32) [(.double va), (.double vb)] (.double 0)) (g_hA : n0 ≤ hA) (g_lA : n0 ≤ lA) (hne : hA ≠ lA) (hz1 : r0 ≠ hA) (hz2 : r0 ≠ lA) (hok : ok5_1 d2 d3) :
    MetFree l (⟨"com/example/degree/degree/retrieval/DoubleDoubles", "setNormalised", "(IDD)V"⟩ : MethodName) (head1 (Jvm.Cond.code (⟨"com/example/degree/degree/retrieval/DoubleDoubles", "setNormalised", "(IDD)V"⟩ : MethodName) prog_43_method_13_code 8 none :: ws) ({ frames := 1, cells := 0, slots := 0, locals := 23 } : Room)) (fun a U => a = #[(.ref r0), (.int (1 : Int32)), (.double d2), (.double d3)] ∧ Z.Warmed39 U.vm ∧ U.heap = h0) (fun _ _ _ _ _ => True) (fun _ U o U' => ∃ v L, o = .returned v ∧ Q_setNormalised_1 Z r0 d2 d3 hA lA kH kL ua ub va vb h0 n0 v U'.heap L ∧ FrameEnd U o U' L ({ frames := 1, cells := 0, slots := 0, locals := 23 } : Room).cells ({ frames := 1, cells := 0, slots := 0, locals := 23 } : Room).slots) := by
  refine MetFree.of_bodySF (plainFor_of_name pnc_com_example_degree_degree_retrieval_DoubleDoubles) hisR ?_
  intro p e s m args below meth c s₁ Bd hml0 hP hK
  obtain ⟨rfl, hZ, hh⟩ := hP
  have hx := Bd.exec
  have hby := Bd.bytes
  have hml : c.maxLocals = 8 := hml0
  have hown : s.vm.findClass "com/example/degree/degree/retrieval/DoubleDoubles" = some m.cls := findClass_of_methodNamed Bd.named
  have hnm := (name_of_methodNamed Bd.named Bd.method).1
  have X0 : Stand p l e ({ frames := 1, cells := 0, slots := 0, locals := 23 } : Room) s m #[(.ref r0), (.int (1 : Int32)), (.double d2), (.double d3)] below meth c s₁ [] 0 0 := Stand.of_body Bd
  have e0 : s₁.heap = h0 := by rw [← hh, Bd.state]; rfl
  have N0 := Fr.nil n0
  have kp0 : Keep h0 h0 [hA, lA] := Keep.refl _ _
  have G0 : ∀ t, Steps p.tables e below (s₁.setTop (mkF m 0 #[.val (.ref r0), .val (.int (1 : Int32)), .val (.double d2), .second, .val (.double d3), .second, .unset, .unset] [])) t → Steps p.tables e below (s₁.setTop (entryFrame m #[(.ref r0), (.int (1 : Int32)), (.double d2), (.double d3)] 8)) t := fun t k => castTop (ef_rm_setNormalised_1 m r0 (1 : Int32) d2 d3) k
  obtain ⟨hn0, hn1, -⟩ := hok
  obtain ⟨T1, X1, e1, st1⟩ := getF X0 hx hZ hown (host := "") (Or.inl (hq hw 13 rfl)) Via.refl e0 Fh (g := (mkF m 7 #[.val (.ref r0), .val (.int (1 : Int32)), .val (.double d2), .second, .val (.double d3), .second, .val (.double (FP.dadd d2 d3)), .second] [(.ref r0)])) rfl rfl (hb hby d5_7)
  obtain ⟨cl2, Ar2, q2, S2, M2, H2, G2⟩ := id Ah
  have hin2 : ¬ ((1 : Int32) < 0 ∨ cl2.slots.size ≤ ((1 : Int32)).toNatClampNeg) := inb_of S2 ⟨by decide, by decide⟩
  obtain ⟨T3, h3, X3, e3, W3, st3⟩ := stD X1 hx hZ e1 Ar2 (j := (1 : Int32)) hin2 (g := (mkF m 13 #[.val (.ref r0), .val (.int (1 : Int32)), .val (.double d2), .second, .val (.double d3), .second, .val (.double (FP.dadd d2 d3)), .second] [(.double (FP.dadd d2 d3)), (.int (1 : Int32)), (.ref hA)])) rfl rfl (hb hby d5_13)
  have fa4 := E0.wr W3
  have fa5 := Fh.other W3 (Or.inl hz1)
  have fa6 := Fl.other W3 (Or.inl hz1)
  have fa7 := Al.other W3 (Ne.symm hne)
  have z8 : n0 ≤ h3.size := Nat.le_trans Z0 (Nat.le_of_eq W3.size.symm)
  have kp9 : Keep h0 h3 [hA, lA] := kp0.wr W3 (Or.inl (List.mem_of_getElem? (i := 0) rfl))
  have fa10 : Arv Z h3 hA kH .double (2 : Int32) [(.double ua), (.double (FP.dadd d2 d3))] (.double 0) := Arv.set Ar2 q2 S2 M2 H2 G2 rfl W3 1 rfl (Nat.le_of_ble_eq_true rfl)
  have N3 := Fr.snoc X3 N0 g_hA
  obtain ⟨T11, X11, e11, st11⟩ := getF X3 hx hZ hown (host := "") (Or.inl (hq hw 15 rfl)) Via.refl e3 fa6 (g := (mkF m 15 #[.val (.ref r0), .val (.int (1 : Int32)), .val (.double d2), .second, .val (.double d3), .second, .val (.double (FP.dadd d2 d3)), .second] [(.ref r0)])) rfl rfl (hb hby d5_15)
  obtain ⟨_, _, ⟨T12, L12, k12, n12⟩, -, X12, ⟨Lc12, hQ12, l12, y12, z12⟩, st12⟩ := Jvm.LawKit.callS X11 hx (y := (⟨"com/example/degree/degree/retrieval/DoubleDoubles", "twoSumError", "(DDD)D"⟩ : MethodName)) hown (mvT hZ (hq hw 30 rfl)) (mvT hZ (hq hw 31 rfl)) (mvT hZ (hq hw 5 rfl)) (mvT hZ (hq hw 32 rfl)) (by decide) (backOf (W := 2) (rm6 l Z a0 hw [] d2 d3 (FP.dadd d2 d3)  h3 n0 z8 hn1) hZ (hq hw 32 rfl) (hq hw 5 rfl) (by decide) (by decide)) (g := (mkF m 24 #[.val (.ref r0), .val (.int (1 : Int32)), .val (.double d2), .second, .val (.double d3), .second, .val (.double (FP.dadd d2 d3)), .second] [(.double (FP.dadd d2 d3)), (.double d3), (.double d2), (.int (1 : Int32)), (.ref lA)])) rfl (by rw [hml]; rfl) (argsL := [(.double d2), (.double d3), (.double (FP.dadd d2 d3))]) (rest := [(.int (1 : Int32)), (.ref lA)]) (lenOf pd_0 rfl) rfl (by show 2 * 0 + _ ≤ _; exact Nat.le_of_eq rfl) (hb hby d5_24) (fun _ _ => ⟨rfl, e11, (by decide : 0 + 0 ≤ _), (by decide : 0 + 0 ≤ _)⟩)
  dsimp only [Pt.U, Pt.locs, Pt.cells, Pt.slots] at X12 l12 y12 z12 st12 hQ12
  subst l12 y12 z12
  obtain ⟨rfl, N12q, eh12⟩ := hQ12
  have N12 := Fr.app N3 N12q
  obtain ⟨cl13, Ar13, q13, S13, M13, H13, G13⟩ := id fa7
  have hin13 : ¬ ((1 : Int32) < 0 ∨ cl13.slots.size ≤ ((1 : Int32)).toNatClampNeg) := inb_of S13 ⟨by decide, by decide⟩
  obtain ⟨T14, h14, X14, e14, W14, st14⟩ := stD X12 hx hZ eh12 Ar13 (j := (1 : Int32)) hin13 (g := (mkF m 27 #[.val (.ref r0), .val (.int (1 : Int32)), .val (.double d2), .second, .val (.double d3), .second, .val (.double (FP.dadd d2 d3)), .second] [(.double (own_f6 d2 d3 (FP.dadd d2 d3))), (.int (1 : Int32)), (.ref lA)])) rfl rfl (hb hby d5_27)
  have fa15 := fa4.wr W14
  have fa16 := fa5.other W14 (Or.inl hz2)
  have fa17 := fa6.other W14 (Or.inl hz2)
  have fa18 := fa10.other W14 hne
  have z19 : n0 ≤ h14.size := Nat.le_trans z8 (Nat.le_of_eq W14.size.symm)
  have kp20 : Keep h0 h14 [hA, lA] := kp9.wr W14 (Or.inl (List.mem_of_getElem? (i := 1) rfl))
  have fa21 : Arv Z h14 lA kL .double (2 : Int32) [(.double va), (.double (own_f6 d2 d3 (FP.dadd d2 d3)))] (.double 0) := Arv.set Ar13 q13 S13 M13 H13 G13 rfl W14 1 rfl (Nat.le_of_ble_eq_true rfl)
  have N14 := Fr.snoc X14 N12 g_lA
  obtain ⟨fs, hr, hrun, hended, hW, hsame⟩ := X14.leave (v := none) (fun _ => rfl)
  refine ⟨_, _, G0 _ ?_, hrun, hended, _, _, rfl, ?_, ⟨_, rfl⟩, hW, hsame.mono (by decide) (by decide)⟩
  · skip
    show Steps p.tables e below (s₁.setTop (mkF m 0 #[.val (.ref r0), .val (.int (1 : Int32)), .val (.double d2), .second, .val (.double d3), .second, .unset, .unset] [])) _
    refine XS.dloadN X0.here hx rfl (hb hby d5_0) rfl ?_
    show Steps p.tables e below (s₁.setTop (mkF m 1 #[.val (.ref r0), .val (.int (1 : Int32)), .val (.double d2), .second, .val (.double d3), .second, .unset, .unset] [(.double d2)])) _
    refine XS.dload X0.here hx rfl (hb hby d5_1) rfl ?_
    show Steps p.tables e below (s₁.setTop (mkF m 3 #[.val (.ref r0), .val (.int (1 : Int32)), .val (.double d2), .second, .val (.double d3), .second, .unset, .unset] [(.double d3), (.double d2)])) _
    refine XS.daddS X0.here hx rfl (hb hby d5_3) rfl hn0 rfl ?_
    show Steps p.tables e below (s₁.setTop (mkF m 4 #[.val (.ref r0), .val (.int (1 : Int32)), .val (.double d2), .second, .val (.double d3), .second, .unset, .unset] [(.double (FP.dadd d2 d3))])) _
    refine XS.dstore X0.here hx rfl (hb hby d5_4) rfl (l' := #[.val (.ref r0), .val (.int (1 : Int32)), .val (.double d2), .second, .val (.double d3), .second, .val (.double (FP.dadd d2 d3)), .second]) rfl ?_
    show Steps p.tables e below (s₁.setTop (mkF m 6 #[.val (.ref r0), .val (.int (1 : Int32)), .val (.double d2), .second, .val (.double d3), .second, .val (.double (FP.dadd d2 d3)), .second] [])) _
    refine XS.aloadN X0.here hx rfl (hb hby d5_6) rfl rfl ?_
    show Steps p.tables e below (s₁.setTop (mkF m 7 #[.val (.ref r0), .val (.int (1 : Int32)), .val (.double d2), .second, .val (.double d3), .second, .val (.double (FP.dadd d2 d3)), .second] [(.ref r0)])) _
    refine st1 _ ?_
    show Steps p.tables e below (T1.setTop (mkF m 10 #[.val (.ref r0), .val (.int (1 : Int32)), .val (.double d2), .second, .val (.double d3), .second, .val (.double (FP.dadd d2 d3)), .second] [(.ref hA)])) _
    refine XS.iloadN X1.here hx rfl (hb hby d5_10) rfl ?_
    show Steps p.tables e below (T1.setTop (mkF m 11 #[.val (.ref r0), .val (.int (1 : Int32)), .val (.double d2), .second, .val (.double d3), .second, .val (.double (FP.dadd d2 d3)), .second] [(.int (1 : Int32)), (.ref hA)])) _
    refine XS.dload X1.here hx rfl (hb hby d5_11) rfl ?_
    show Steps p.tables e below (T1.setTop (mkF m 13 #[.val (.ref r0), .val (.int (1 : Int32)), .val (.double d2), .second, .val (.double d3), .second, .val (.double (FP.dadd d2 d3)), .second] [(.double (FP.dadd d2 d3)), (.int (1 : Int32)), (.ref hA)])) _
    refine st3 _ ?_
    show Steps p.tables e below (T3.setTop (mkF m 14 #[.val (.ref r0), .val (.int (1 : Int32)), .val (.double d2), .second, .val (.double d3), .second, .val (.double (FP.dadd d2 d3)), .second] [])) _
    refine XS.aloadN X3.here hx rfl (hb hby d5_14) rfl rfl ?_
    show Steps p.tables e below (T3.setTop (mkF m 15 #[.val (.ref r0), .val (.int (1 : Int32)), .val (.double d2), .second, .val (.double d3), .second, .val (.double (FP.dadd d2 d3)), .second] [(.ref r0)])) _
    refine st11 _ ?_
    show Steps p.tables e below (T11.setTop (mkF m 18 #[.val (.ref r0), .val (.int (1 : Int32)), .val (.double d2), .second, .val (.double d3), .second, .val (.double (FP.dadd d2 d3)), .second] [(.ref lA)])) _
    refine XS.iloadN X11.here hx rfl (hb hby d5_18) rfl ?_
    show Steps p.tables e below (T11.setTop (mkF m 19 #[.val (.ref r0), .val (.int (1 : Int32)), .val (.double d2), .second, .val (.double d3), .second, .val (.double (FP.dadd d2 d3)), .second] [(.int (1 : Int32)), (.ref lA)])) _
    refine XS.dloadN X11.here hx rfl (hb hby d5_19) rfl ?_
    show Steps p.tables e below (T11.setTop (mkF m 20 #[.val (.ref r0), .val (.int (1 : Int32)), .val (.double d2), .second, .val (.double d3), .second, .val (.double (FP.dadd d2 d3)), .second] [(.double d2), (.int (1 : Int32)), (.ref lA)])) _
    refine XS.dload X11.here hx rfl (hb hby d5_20) rfl ?_
    show Steps p.tables e below (T11.setTop (mkF m 22 #[.val (.ref r0), .val (.int (1 : Int32)), .val (.double d2), .second, .val (.double d3), .second, .val (.double (FP.dadd d2 d3)), .second] [(.double d3), (.double d2), (.int (1 : Int32)), (.ref lA)])) _
    refine XS.dload X11.here hx rfl (hb hby d5_22) rfl ?_
    show Steps p.tables e below (T11.setTop (mkF m 24 #[.val (.ref r0), .val (.int (1 : Int32)), .val (.double d2), .second, .val (.double d3), .second, .val (.double (FP.dadd d2 d3)), .second] [(.double (FP.dadd d2 d3)), (.double d3), (.double d2), (.int (1 : Int32)), (.ref lA)])) _
    refine st12 _ ?_
    show Steps p.tables e below (T12.setTop (mkF m 27 #[.val (.ref r0), .val (.int (1 : Int32)), .val (.double d2), .second, .val (.double d3), .second, .val (.double (FP.dadd d2 d3)), .second] [(.double (own_f6 d2 d3 (FP.dadd d2 d3))), (.int (1 : Int32)), (.ref lA)])) _
    refine st14 _ ?_
    show Steps p.tables e below (T14.setTop (mkF m 28 #[.val (.ref r0), .val (.int (1 : Int32)), .val (.double d2), .second, .val (.double d3), .second, .val (.double (FP.dadd d2 d3)), .second] [])) _
    exact X14.returnOut hx Bd.returns (hb hby d5_28) hr
  · show Q_setNormalised_1 Z r0 d2 d3 hA lA kH kL ua ub va vb h0 n0 _ T14.heap _
    rw [e14]
    exact ⟨rfl, N14, kp20, fa18, fa21⟩
theorem d3_0 : decode prog_43_method_4_code 0 = .ok (.lload_n 2, 1) := by decide +kernel
theorem d3_1 : decode prog_43_method_4_code 1 = .ok (.l2d, 1) := by decide +kernel
theorem d3_2 : decode prog_43_method_4_code 2 = .ok (.dstore 6, 2) := by decide +kernel
theorem d3_4 : decode prog_43_method_4_code 4 = .ok (.lload 4, 2) := by decide +kernel
theorem d3_6 : decode prog_43_method_4_code 6 = .ok (.l2d, 1) := by decide +kernel
theorem d3_7 : decode prog_43_method_4_code 7 = .ok (.dstore 8, 2) := by decide +kernel
theorem d3_9 : decode prog_43_method_4_code 9 = .ok (.dload 6, 2) := by decide +kernel
theorem d3_11 : decode prog_43_method_4_code 11 = .ok (.dload 8, 2) := by decide +kernel
theorem d3_13 : decode prog_43_method_4_code 13 = .ok (.ddiv, 1) := by decide +kernel
theorem d3_14 : decode prog_43_method_4_code 14 = .ok (.dstore 10, 2) := by decide +kernel
theorem d3_16 : decode prog_43_method_4_code 16 = .ok (.dload 10, 2) := by decide +kernel
theorem d3_18 : decode prog_43_method_4_code 18 = .ok (.dload 8, 2) := by decide +kernel
theorem d3_20 : decode prog_43_method_4_code 20 = .ok (.dmul, 1) := by decide +kernel
theorem d3_21 : decode prog_43_method_4_code 21 = .ok (.dstore 12, 2) := by decide +kernel
theorem d3_23 : decode prog_43_method_4_code 23 = .ok (.dload 10, 2) := by decide +kernel
theorem d3_25 : decode prog_43_method_4_code 25 = .ok (.dload 8, 2) := by decide +kernel
theorem d3_27 : decode prog_43_method_4_code 27 = .ok (.dload 12, 2) := by decide +kernel
theorem d3_29 : decode prog_43_method_4_code 29 = .ok (.invokestatic 22, 3) := by decide +kernel
theorem d3_32 : decode prog_43_method_4_code 32 = .ok (.dstore 14, 2) := by decide +kernel
theorem d3_34 : decode prog_43_method_4_code 34 = .ok (.dload 6, 2) := by decide +kernel
theorem d3_36 : decode prog_43_method_4_code 36 = .ok (.dload 12, 2) := by decide +kernel
theorem d3_38 : decode prog_43_method_4_code 38 = .ok (.dsub, 1) := by decide +kernel
theorem d3_39 : decode prog_43_method_4_code 39 = .ok (.dload 14, 2) := by decide +kernel
theorem d3_41 : decode prog_43_method_4_code 41 = .ok (.dsub, 1) := by decide +kernel
theorem d3_42 : decode prog_43_method_4_code 42 = .ok (.dstore 16, 2) := by decide +kernel
theorem d3_44 : decode prog_43_method_4_code 44 = .ok (.aload_n 0, 1) := by decide +kernel
theorem d3_45 : decode prog_43_method_4_code 45 = .ok (.iload_n 1, 1) := by decide +kernel
theorem d3_46 : decode prog_43_method_4_code 46 = .ok (.dload 10, 2) := by decide +kernel
theorem d3_48 : decode prog_43_method_4_code 48 = .ok (.dload 16, 2) := by decide +kernel
theorem d3_50 : decode prog_43_method_4_code 50 = .ok (.dload 8, 2) := by decide +kernel
theorem d3_52 : decode prog_43_method_4_code 52 = .ok (.ddiv, 1) := by decide +kernel
theorem d3_53 : decode prog_43_method_4_code 53 = .ok (.invokevirtual 26, 3) := by decide +kernel
theorem pd_1 : parseMethodDescriptor "(IDD)V" = some ⟨[.int, .double, .double], none⟩ := by decide +kernel
theorem d3_56 : decode prog_43_method_4_code 56 = .ok (.return_, 1) := by decide +kernel
def ok3_0 (nq dq : Int64) : Prop := Jvm.Free.Fl.NoNaN64 (FP.ddiv (FP.l2d nq) (FP.l2d dq)) ∧ Jvm.Free.Fl.NoNaN64 (FP.dmul (FP.ddiv (FP.l2d nq) (FP.l2d dq)) (FP.l2d dq)) ∧ ok4 (FP.ddiv (FP.l2d nq) (FP.l2d dq)) (FP.l2d dq) (FP.dmul (FP.ddiv (FP.l2d nq) (FP.l2d dq)) (FP.l2d dq)) ∧ Jvm.Free.Fl.NoNaN64 (FP.dsub (FP.l2d nq) (FP.dmul (FP.ddiv (FP.l2d nq) (FP.l2d dq)) (FP.l2d dq))) ∧ Jvm.Free.Fl.NoNaN64 (FP.dsub (FP.dsub (FP.l2d nq) (FP.dmul (FP.ddiv (FP.l2d nq) (FP.l2d dq)) (FP.l2d dq))) (own_f4 (FP.ddiv (FP.l2d nq) (FP.l2d dq)) (FP.l2d dq) (FP.dmul (FP.ddiv (FP.l2d nq) (FP.l2d dq)) (FP.l2d dq)))) ∧ Jvm.Free.Fl.NoNaN64 (FP.ddiv (FP.dsub (FP.dsub (FP.l2d nq) (FP.dmul (FP.ddiv (FP.l2d nq) (FP.l2d dq)) (FP.l2d dq))) (own_f4 (FP.ddiv (FP.l2d nq) (FP.l2d dq)) (FP.l2d dq) (FP.dmul (FP.ddiv (FP.l2d nq) (FP.l2d dq)) (FP.l2d dq)))) (FP.l2d dq)) ∧ ok5_0 (FP.ddiv (FP.l2d nq) (FP.l2d dq)) (FP.ddiv (FP.dsub (FP.dsub (FP.l2d nq) (FP.dmul (FP.ddiv (FP.l2d nq) (FP.l2d dq)) (FP.l2d dq))) (own_f4 (FP.ddiv (FP.l2d nq) (FP.l2d dq)) (FP.l2d dq) (FP.dmul (FP.ddiv (FP.l2d nq) (FP.l2d dq)) (FP.l2d dq)))) (FP.l2d dq)) ∧ True
def Q_setQuotient_0 (Z : State) (r0 : Addr) (nq : Int64) (dq : Int64) (hA lA : Addr) (kH kL : ClassId) (ua ub va vb : UInt64) (h0 : Heap) (n0 : Nat) (v : Option Value) (h : Heap) (L : List Loc) : Prop := v = none ∧ Fr n0 L ∧ Keep h0 h [hA, lA] ∧ Arv Z h hA kH .double (2 : Int32) [(.double (own_qh nq dq)), (.double ub)] (.double 0) ∧ Arv Z h lA kL .double (2 : Int32) [(.double (own_ql nq dq)), (.double vb)] (.double 0)
theorem ef_rm_setQuotient_0 (m : MethodId) (x0 : Addr) (x1 : Int32) (x2 : Int64) (x3 : Int64) : entryFrame m #[(.ref x0), (.int x1), (.long x2), (.long x3)] 18 = mkF m 0 #[.val (.ref x0), .val (.int x1), .val (.long x2), .second, .val (.long x3), .second, .unset, .unset, .unset, .unset, .unset, .unset, .unset, .unset, .unset, .unset, .unset, .unset] [] := by first | (simp [entryFrame, mkF, argsToLocals, Value.category]; done) | rfl
set_option maxRecDepth 65536 in
set_option maxHeartbeats 40000000 in
theorem rm_setQuotient_0 (l : Launch) (Z : State) (a0 : Array Value) (hw : ∀ d ∈ tables_1, d.before a0 Z = true) (ws : List Jvm.Cond) (r0 : Addr) (nq : Int64) (dq : Int64) (hA lA : Addr) (kH kL : ClassId) (ua ub va vb : UInt64) (h0 : Heap) (n0 : Nat) (Z0 : n0 ≤ h0.size) (E0 : Exa Z h0 r0 "com/example/degree/degree/retrieval/DoubleDoubles") (Fh : Fld Z h0 r0 "com/example/degree/degree/retrieval/DoubleDoubles" "high" "[D" (.ref hA)) (Fl : Fld Z h0 r0 "com/example/degree/degree/retrieval/DoubleDoubles" "low" "[D" (.ref lA)) (Ah : Arv Z h0 hA kH .double (2 : Int32) [(.double ua), (.double ub)] (.double 0)) (Al : Arv Z h0 lA kL .double (2 : Int32) [(.double va), (.double vb)] (.double 0)) (g_hA : n0 ≤ hA) (g_lA : n0 ≤ lA) (hne : hA ≠ lA) (hz1 : r0 ≠ hA) (hz2 : r0 ≠ lA) (hok : ok3_0 nq dq) :
    MetFree l (⟨"com/example/degree/degree/retrieval/DoubleDoubles", "setQuotient", "(IJJ)V"⟩ : MethodName) (head1 (Jvm.Cond.code (⟨"com/example/degree/degree/retrieval/DoubleDoubles", "setQuotient", "(IJJ)V"⟩ : MethodName) prog_43_method_4_code 18 none :: ws) ({ frames := 2, cells := 0, slots := 0, locals := 42 } : Room)) (fun a U => a = #[(.ref r0), (.int (0 : Int32)), (.long nq), (.long dq)] ∧ Z.Warmed39 U.vm ∧ U.heap = h0) (fun _ _ _ _ _ => True) (fun _ U o U' => ∃ v L, o = .returned v ∧ Q_setQuotient_0 Z r0 nq dq hA lA kH kL ua ub va vb h0 n0 v U'.heap L ∧ FrameEnd U o U' L ({ frames := 2, cells := 0, slots := 0, locals := 42 } : Room).cells ({ frames := 2, cells := 0, slots := 0, locals := 42 } : Room).slots) := by
  refine MetFree.of_bodySF (plainFor_of_name pnc_com_example_degree_degree_retrieval_DoubleDoubles) hisR ?_
  intro p e s m args below meth c s₁ Bd hml0 hP hK
  obtain ⟨rfl, hZ, hh⟩ := hP
  have hx := Bd.exec
  have hby := Bd.bytes
  have hml : c.maxLocals = 18 := hml0
  have hown : s.vm.findClass "com/example/degree/degree/retrieval/DoubleDoubles" = some m.cls := findClass_of_methodNamed Bd.named
  have hnm := (name_of_methodNamed Bd.named Bd.method).1
  have X0 : Stand p l e ({ frames := 2, cells := 0, slots := 0, locals := 42 } : Room) s m #[(.ref r0), (.int (0 : Int32)), (.long nq), (.long dq)] below meth c s₁ [] 0 0 := Stand.of_body Bd
  have e0 : s₁.heap = h0 := by rw [← hh, Bd.state]; rfl
  have N0 := Fr.nil n0
  have kp0 : Keep h0 h0 [hA, lA] := Keep.refl _ _
  have G0 : ∀ t, Steps p.tables e below (s₁.setTop (mkF m 0 #[.val (.ref r0), .val (.int (0 : Int32)), .val (.long nq), .second, .val (.long dq), .second, .unset, .unset, .unset, .unset, .unset, .unset, .unset, .unset, .unset, .unset, .unset, .unset] [])) t → Steps p.tables e below (s₁.setTop (entryFrame m #[(.ref r0), (.int (0 : Int32)), (.long nq), (.long dq)] 18)) t := fun t k => castTop (ef_rm_setQuotient_0 m r0 (0 : Int32) nq dq) k
  obtain ⟨hn0, hn1, hn2, hn3, hn4, hn5, hn6, -⟩ := hok
  obtain ⟨_, _, ⟨T1, L1, k1, n1⟩, -, X1, ⟨Lc1, hQ1, l1, y1, z1⟩, st1⟩ := Jvm.LawKit.callS X0 hx (y := (⟨"com/example/degree/degree/retrieval/DoubleDoubles", "twoProductError", "(DDD)D"⟩ : MethodName)) hown (mvT hZ (hq hw 22 rfl)) (mvT hZ (hq hw 23 rfl)) (mvT hZ (hq hw 5 rfl)) (mvT hZ (hq hw 24 rfl)) (by decide) (backOf (W := 0) (rm4 l Z a0 hw [] (FP.ddiv (FP.l2d nq) (FP.l2d dq)) (FP.l2d dq) (FP.dmul (FP.ddiv (FP.l2d nq) (FP.l2d dq)) (FP.l2d dq))  h0 n0 Z0 hn2) hZ (hq hw 24 rfl) (hq hw 5 rfl) (by decide) (by decide)) (g := (mkF m 29 #[.val (.ref r0), .val (.int (0 : Int32)), .val (.long nq), .second, .val (.long dq), .second, .val (.double (FP.l2d nq)), .second, .val (.double (FP.l2d dq)), .second, .val (.double (FP.ddiv (FP.l2d nq) (FP.l2d dq))), .second, .val (.double (FP.dmul (FP.ddiv (FP.l2d nq) (FP.l2d dq)) (FP.l2d dq))), .second, .unset, .unset, .unset, .unset] [(.double (FP.dmul (FP.ddiv (FP.l2d nq) (FP.l2d dq)) (FP.l2d dq))), (.double (FP.l2d dq)), (.double (FP.ddiv (FP.l2d nq) (FP.l2d dq)))])) rfl (by rw [hml]; rfl) (argsL := [(.double (FP.ddiv (FP.l2d nq) (FP.l2d dq))), (.double (FP.l2d dq)), (.double (FP.dmul (FP.ddiv (FP.l2d nq) (FP.l2d dq)) (FP.l2d dq)))]) (rest := []) (lenOf pd_0 rfl) rfl (by show 2 * 0 + _ ≤ _; exact Nat.le_of_eq rfl) (hb hby d3_29) (fun _ _ => ⟨rfl, e0, (by decide : 0 + 0 ≤ _), (by decide : 0 + 0 ≤ _)⟩)
  dsimp only [Pt.U, Pt.locs, Pt.cells, Pt.slots] at X1 l1 y1 z1 st1 hQ1
  subst l1 y1 z1
  obtain ⟨rfl, N1q, eh1⟩ := hQ1
  have N1 := Fr.app N0 N1q
  obtain ⟨cq2, q2, q2'⟩ := E0.cell
  obtain ⟨_, _, ⟨T2, L2, k2, n2⟩, -, X2, ⟨Lc2, hQ2, l2, y2, z2⟩, st2⟩ := X1.privateBack hx (y := (⟨"com/example/degree/degree/retrieval/DoubleDoubles", "setNormalised", "(IDD)V"⟩ : MethodName)) hown (mvT hZ (hq hw 26 rfl)) (mvT hZ (hq hw 27 rfl)) (own_selp (mvT hZ (hq hw 4 rfl)) (mvT hZ (hq hw 27 rfl)) (mvP hZ (hq hw 28 rfl)) (by decide)) (Cond.privateMethod_at (mvP hZ (hq hw 28 rfl) (args := #[]))) (mvT hZ (hq hw 29 rfl)) (by decide) (backOf (W := 0) (rm_setNormalised_0 l Z a0 hw [] r0 (FP.ddiv (FP.l2d nq) (FP.l2d dq)) (FP.ddiv (FP.dsub (FP.dsub (FP.l2d nq) (FP.dmul (FP.ddiv (FP.l2d nq) (FP.l2d dq)) (FP.l2d dq))) (own_f4 (FP.ddiv (FP.l2d nq) (FP.l2d dq)) (FP.l2d dq) (FP.dmul (FP.ddiv (FP.l2d nq) (FP.l2d dq)) (FP.l2d dq)))) (FP.l2d dq)) hA lA kH kL ua ub va vb h0 n0 Z0 E0 Fh Fl Ah Al g_hA g_lA hne hz1 hz2 hn6) hZ (hq hw 29 rfl) (hq hw 5 rfl) (by decide) (by decide)) (g := (mkF m 53 #[.val (.ref r0), .val (.int (0 : Int32)), .val (.long nq), .second, .val (.long dq), .second, .val (.double (FP.l2d nq)), .second, .val (.double (FP.l2d dq)), .second, .val (.double (FP.ddiv (FP.l2d nq) (FP.l2d dq))), .second, .val (.double (FP.dmul (FP.ddiv (FP.l2d nq) (FP.l2d dq)) (FP.l2d dq))), .second, .val (.double (own_f4 (FP.ddiv (FP.l2d nq) (FP.l2d dq)) (FP.l2d dq) (FP.dmul (FP.ddiv (FP.l2d nq) (FP.l2d dq)) (FP.l2d dq)))), .second, .val (.double (FP.dsub (FP.dsub (FP.l2d nq) (FP.dmul (FP.ddiv (FP.l2d nq) (FP.l2d dq)) (FP.l2d dq))) (own_f4 (FP.ddiv (FP.l2d nq) (FP.l2d dq)) (FP.l2d dq) (FP.dmul (FP.ddiv (FP.l2d nq) (FP.l2d dq)) (FP.l2d dq))))), .second] [(.double (FP.ddiv (FP.dsub (FP.dsub (FP.l2d nq) (FP.dmul (FP.ddiv (FP.l2d nq) (FP.l2d dq)) (FP.l2d dq))) (own_f4 (FP.ddiv (FP.l2d nq) (FP.l2d dq)) (FP.l2d dq) (FP.dmul (FP.ddiv (FP.l2d nq) (FP.l2d dq)) (FP.l2d dq)))) (FP.l2d dq))), (.double (FP.ddiv (FP.l2d nq) (FP.l2d dq))), (.int (0 : Int32)), (.ref r0)])) rfl (by rw [hml]; rfl) (Steps.refl _) (a := r0) (by rw [eh1]; exact q2) q2' (argsL := [(.int (0 : Int32)), (.double (FP.ddiv (FP.l2d nq) (FP.l2d dq))), (.double (FP.ddiv (FP.dsub (FP.dsub (FP.l2d nq) (FP.dmul (FP.ddiv (FP.l2d nq) (FP.l2d dq)) (FP.l2d dq))) (own_f4 (FP.ddiv (FP.l2d nq) (FP.l2d dq)) (FP.l2d dq) (FP.dmul (FP.ddiv (FP.l2d nq) (FP.l2d dq)) (FP.l2d dq)))) (FP.l2d dq)))]) (rest := []) (lenOf pd_1 rfl) rfl (by show 2 * 0 + _ ≤ _; exact Nat.le_of_eq rfl) (hb hby d3_53) (fun _ _ => ⟨rfl, eh1, (by decide : 0 + 0 ≤ _), (by decide : 0 + 0 ≤ _)⟩)
  dsimp only [Pt.U, Pt.locs, Pt.cells, Pt.slots] at X2 l2 y2 z2 st2 hQ2
  subst l2 y2 z2
  obtain ⟨rfl, N2q, K2, Vh2, Vl2⟩ := hQ2
  have N2 := Fr.app N1 N2q
  have fa3 := E0.keep K2
  have fa4 := Fh.keep K2 (ninS hz1 (ninS hz2 nin0))
  have fa5 := Fl.keep K2 (ninS hz1 (ninS hz2 nin0))
  have z6 : n0 ≤ T2.heap.size := Nat.le_trans Z0 K2.1
  have kp7 : Keep h0 T2.heap [hA, lA] := kp0.trans K2 (allS (Or.inl (List.mem_of_getElem? (i := 0) rfl)) (allS (Or.inl (List.mem_of_getElem? (i := 1) rfl)) all0))
  obtain ⟨fs, hr, hrun, hended, hW, hsame⟩ := X2.leave (v := none) (fun _ => rfl)
  refine ⟨_, _, G0 _ ?_, hrun, hended, _, _, rfl, ?_, ⟨_, rfl⟩, hW, hsame.mono (by decide) (by decide)⟩
  · skip
    show Steps p.tables e below (s₁.setTop (mkF m 0 #[.val (.ref r0), .val (.int (0 : Int32)), .val (.long nq), .second, .val (.long dq), .second, .unset, .unset, .unset, .unset, .unset, .unset, .unset, .unset, .unset, .unset, .unset, .unset] [])) _
    refine XS.lloadN X0.here hx rfl (hb hby d3_0) rfl ?_
    show Steps p.tables e below (s₁.setTop (mkF m 1 #[.val (.ref r0), .val (.int (0 : Int32)), .val (.long nq), .second, .val (.long dq), .second, .unset, .unset, .unset, .unset, .unset, .unset, .unset, .unset, .unset, .unset, .unset, .unset] [(.long nq)])) _
    refine XS.l2dS X0.here hx rfl (hb hby d3_1) rfl rfl ?_
    show Steps p.tables e below (s₁.setTop (mkF m 2 #[.val (.ref r0), .val (.int (0 : Int32)), .val (.long nq), .second, .val (.long dq), .second, .unset, .unset, .unset, .unset, .unset, .unset, .unset, .unset, .unset, .unset, .unset, .unset] [(.double (FP.l2d nq))])) _
    refine XS.dstore X0.here hx rfl (hb hby d3_2) rfl (l' := #[.val (.ref r0), .val (.int (0 : Int32)), .val (.long nq), .second, .val (.long dq), .second, .val (.double (FP.l2d nq)), .second, .unset, .unset, .unset, .unset, .unset, .unset, .unset, .unset, .unset, .unset]) rfl ?_
    show Steps p.tables e below (s₁.setTop (mkF m 4 #[.val (.ref r0), .val (.int (0 : Int32)), .val (.long nq), .second, .val (.long dq), .second, .val (.double (FP.l2d nq)), .second, .unset, .unset, .unset, .unset, .unset, .unset, .unset, .unset, .unset, .unset] [])) _
    refine XS.lload X0.here hx rfl (hb hby d3_4) rfl ?_
    show Steps p.tables e below (s₁.setTop (mkF m 6 #[.val (.ref r0), .val (.int (0 : Int32)), .val (.long nq), .second, .val (.long dq), .second, .val (.double (FP.l2d nq)), .second, .unset, .unset, .unset, .unset, .unset, .unset, .unset, .unset, .unset, .unset] [(.long dq)])) _
    refine XS.l2dS X0.here hx rfl (hb hby d3_6) rfl rfl ?_
    show Steps p.tables e below (s₁.setTop (mkF m 7 #[.val (.ref r0), .val (.int (0 : Int32)), .val (.long nq), .second, .val (.long dq), .second, .val (.double (FP.l2d nq)), .second, .unset, .unset, .unset, .unset, .unset, .unset, .unset, .unset, .unset, .unset] [(.double (FP.l2d dq))])) _
    refine XS.dstore X0.here hx rfl (hb hby d3_7) rfl (l' := #[.val (.ref r0), .val (.int (0 : Int32)), .val (.long nq), .second, .val (.long dq), .second, .val (.double (FP.l2d nq)), .second, .val (.double (FP.l2d dq)), .second, .unset, .unset, .unset, .unset, .unset, .unset, .unset, .unset]) rfl ?_
    show Steps p.tables e below (s₁.setTop (mkF m 9 #[.val (.ref r0), .val (.int (0 : Int32)), .val (.long nq), .second, .val (.long dq), .second, .val (.double (FP.l2d nq)), .second, .val (.double (FP.l2d dq)), .second, .unset, .unset, .unset, .unset, .unset, .unset, .unset, .unset] [])) _
    refine XS.dload X0.here hx rfl (hb hby d3_9) rfl ?_
    show Steps p.tables e below (s₁.setTop (mkF m 11 #[.val (.ref r0), .val (.int (0 : Int32)), .val (.long nq), .second, .val (.long dq), .second, .val (.double (FP.l2d nq)), .second, .val (.double (FP.l2d dq)), .second, .unset, .unset, .unset, .unset, .unset, .unset, .unset, .unset] [(.double (FP.l2d nq))])) _
    refine XS.dload X0.here hx rfl (hb hby d3_11) rfl ?_
    show Steps p.tables e below (s₁.setTop (mkF m 13 #[.val (.ref r0), .val (.int (0 : Int32)), .val (.long nq), .second, .val (.long dq), .second, .val (.double (FP.l2d nq)), .second, .val (.double (FP.l2d dq)), .second, .unset, .unset, .unset, .unset, .unset, .unset, .unset, .unset] [(.double (FP.l2d dq)), (.double (FP.l2d nq))])) _
    refine XS.ddivS X0.here hx rfl (hb hby d3_13) rfl hn0 rfl ?_
    show Steps p.tables e below (s₁.setTop (mkF m 14 #[.val (.ref r0), .val (.int (0 : Int32)), .val (.long nq), .second, .val (.long dq), .second, .val (.double (FP.l2d nq)), .second, .val (.double (FP.l2d dq)), .second, .unset, .unset, .unset, .unset, .unset, .unset, .unset, .unset] [(.double (FP.ddiv (FP.l2d nq) (FP.l2d dq)))])) _
    refine XS.dstore X0.here hx rfl (hb hby d3_14) rfl (l' := #[.val (.ref r0), .val (.int (0 : Int32)), .val (.long nq), .second, .val (.long dq), .second, .val (.double (FP.l2d nq)), .second, .val (.double (FP.l2d dq)), .second, .val (.double (FP.ddiv (FP.l2d nq) (FP.l2d dq))), .second, .unset, .unset, .unset, .unset, .unset, .unset]) rfl ?_
    show Steps p.tables e below (s₁.setTop (mkF m 16 #[.val (.ref r0), .val (.int (0 : Int32)), .val (.long nq), .second, .val (.long dq), .second, .val (.double (FP.l2d nq)), .second, .val (.double (FP.l2d dq)), .second, .val (.double (FP.ddiv (FP.l2d nq) (FP.l2d dq))), .second, .unset, .unset, .unset, .unset, .unset, .unset] [])) _
    refine XS.dload X0.here hx rfl (hb hby d3_16) rfl ?_
    show Steps p.tables e below (s₁.setTop (mkF m 18 #[.val (.ref r0), .val (.int (0 : Int32)), .val (.long nq), .second, .val (.long dq), .second, .val (.double (FP.l2d nq)), .second, .val (.double (FP.l2d dq)), .second, .val (.double (FP.ddiv (FP.l2d nq) (FP.l2d dq))), .second, .unset, .unset, .unset, .unset, .unset, .unset] [(.double (FP.ddiv (FP.l2d nq) (FP.l2d dq)))])) _
    refine XS.dload X0.here hx rfl (hb hby d3_18) rfl ?_
    show Steps p.tables e below (s₁.setTop (mkF m 20 #[.val (.ref r0), .val (.int (0 : Int32)), .val (.long nq), .second, .val (.long dq), .second, .val (.double (FP.l2d nq)), .second, .val (.double (FP.l2d dq)), .second, .val (.double (FP.ddiv (FP.l2d nq) (FP.l2d dq))), .second, .unset, .unset, .unset, .unset, .unset, .unset] [(.double (FP.l2d dq)), (.double (FP.ddiv (FP.l2d nq) (FP.l2d dq)))])) _
    refine XS.dmulS X0.here hx rfl (hb hby d3_20) rfl hn1 rfl ?_
    show Steps p.tables e below (s₁.setTop (mkF m 21 #[.val (.ref r0), .val (.int (0 : Int32)), .val (.long nq), .second, .val (.long dq), .second, .val (.double (FP.l2d nq)), .second, .val (.double (FP.l2d dq)), .second, .val (.double (FP.ddiv (FP.l2d nq) (FP.l2d dq))), .second, .unset, .unset, .unset, .unset, .unset, .unset] [(.double (FP.dmul (FP.ddiv (FP.l2d nq) (FP.l2d dq)) (FP.l2d dq)))])) _
    refine XS.dstore X0.here hx rfl (hb hby d3_21) rfl (l' := #[.val (.ref r0), .val (.int (0 : Int32)), .val (.long nq), .second, .val (.long dq), .second, .val (.double (FP.l2d nq)), .second, .val (.double (FP.l2d dq)), .second, .val (.double (FP.ddiv (FP.l2d nq) (FP.l2d dq))), .second, .val (.double (FP.dmul (FP.ddiv (FP.l2d nq) (FP.l2d dq)) (FP.l2d dq))), .second, .unset, .unset, .unset, .unset]) rfl ?_
    show Steps p.tables e below (s₁.setTop (mkF m 23 #[.val (.ref r0), .val (.int (0 : Int32)), .val (.long nq), .second, .val (.long dq), .second, .val (.double (FP.l2d nq)), .second, .val (.double (FP.l2d dq)), .second, .val (.double (FP.ddiv (FP.l2d nq) (FP.l2d dq))), .second, .val (.double (FP.dmul (FP.ddiv (FP.l2d nq) (FP.l2d dq)) (FP.l2d dq))), .second, .unset, .unset, .unset, .unset] [])) _
    refine XS.dload X0.here hx rfl (hb hby d3_23) rfl ?_
    show Steps p.tables e below (s₁.setTop (mkF m 25 #[.val (.ref r0), .val (.int (0 : Int32)), .val (.long nq), .second, .val (.long dq), .second, .val (.double (FP.l2d nq)), .second, .val (.double (FP.l2d dq)), .second, .val (.double (FP.ddiv (FP.l2d nq) (FP.l2d dq))), .second, .val (.double (FP.dmul (FP.ddiv (FP.l2d nq) (FP.l2d dq)) (FP.l2d dq))), .second, .unset, .unset, .unset, .unset] [(.double (FP.ddiv (FP.l2d nq) (FP.l2d dq)))])) _
    refine XS.dload X0.here hx rfl (hb hby d3_25) rfl ?_
    show Steps p.tables e below (s₁.setTop (mkF m 27 #[.val (.ref r0), .val (.int (0 : Int32)), .val (.long nq), .second, .val (.long dq), .second, .val (.double (FP.l2d nq)), .second, .val (.double (FP.l2d dq)), .second, .val (.double (FP.ddiv (FP.l2d nq) (FP.l2d dq))), .second, .val (.double (FP.dmul (FP.ddiv (FP.l2d nq) (FP.l2d dq)) (FP.l2d dq))), .second, .unset, .unset, .unset, .unset] [(.double (FP.l2d dq)), (.double (FP.ddiv (FP.l2d nq) (FP.l2d dq)))])) _
    refine XS.dload X0.here hx rfl (hb hby d3_27) rfl ?_
    show Steps p.tables e below (s₁.setTop (mkF m 29 #[.val (.ref r0), .val (.int (0 : Int32)), .val (.long nq), .second, .val (.long dq), .second, .val (.double (FP.l2d nq)), .second, .val (.double (FP.l2d dq)), .second, .val (.double (FP.ddiv (FP.l2d nq) (FP.l2d dq))), .second, .val (.double (FP.dmul (FP.ddiv (FP.l2d nq) (FP.l2d dq)) (FP.l2d dq))), .second, .unset, .unset, .unset, .unset] [(.double (FP.dmul (FP.ddiv (FP.l2d nq) (FP.l2d dq)) (FP.l2d dq))), (.double (FP.l2d dq)), (.double (FP.ddiv (FP.l2d nq) (FP.l2d dq)))])) _
    refine st1 _ ?_
    show Steps p.tables e below (T1.setTop (mkF m 32 #[.val (.ref r0), .val (.int (0 : Int32)), .val (.long nq), .second, .val (.long dq), .second, .val (.double (FP.l2d nq)), .second, .val (.double (FP.l2d dq)), .second, .val (.double (FP.ddiv (FP.l2d nq) (FP.l2d dq))), .second, .val (.double (FP.dmul (FP.ddiv (FP.l2d nq) (FP.l2d dq)) (FP.l2d dq))), .second, .unset, .unset, .unset, .unset] [(.double (own_f4 (FP.ddiv (FP.l2d nq) (FP.l2d dq)) (FP.l2d dq) (FP.dmul (FP.ddiv (FP.l2d nq) (FP.l2d dq)) (FP.l2d dq))))])) _
    refine XS.dstore X1.here hx rfl (hb hby d3_32) rfl (l' := #[.val (.ref r0), .val (.int (0 : Int32)), .val (.long nq), .second, .val (.long dq), .second, .val (.double (FP.l2d nq)), .second, .val (.double (FP.l2d dq)), .second, .val (.double (FP.ddiv (FP.l2d nq) (FP.l2d dq))), .second, .val (.double (FP.dmul (FP.ddiv (FP.l2d nq) (FP.l2d dq)) (FP.l2d dq))), .second, .val (.double (own_f4 (FP.ddiv (FP.l2d nq) (FP.l2d dq)) (FP.l2d dq) (FP.dmul (FP.ddiv (FP.l2d nq) (FP.l2d dq)) (FP.l2d dq)))), .second, .unset, .unset]) rfl ?_
    show Steps p.tables e below (T1.setTop (mkF m 34 #[.val (.ref r0), .val (.int (0 : Int32)), .val (.long nq), .second, .val (.long dq), .second, .val (.double (FP.l2d nq)), .second, .val (.double (FP.l2d dq)), .second, .val (.double (FP.ddiv (FP.l2d nq) (FP.l2d dq))), .second, .val (.double (FP.dmul (FP.ddiv (FP.l2d nq) (FP.l2d dq)) (FP.l2d dq))), .second, .val (.double (own_f4 (FP.ddiv (FP.l2d nq) (FP.l2d dq)) (FP.l2d dq) (FP.dmul (FP.ddiv (FP.l2d nq) (FP.l2d dq)) (FP.l2d dq)))), .second, .unset, .unset] [])) _
    refine XS.dload X1.here hx rfl (hb hby d3_34) rfl ?_
    show Steps p.tables e below (T1.setTop (mkF m 36 #[.val (.ref r0), .val (.int (0 : Int32)), .val (.long nq), .second, .val (.long dq), .second, .val (.double (FP.l2d nq)), .second, .val (.double (FP.l2d dq)), .second, .val (.double (FP.ddiv (FP.l2d nq) (FP.l2d dq))), .second, .val (.double (FP.dmul (FP.ddiv (FP.l2d nq) (FP.l2d dq)) (FP.l2d dq))), .second, .val (.double (own_f4 (FP.ddiv (FP.l2d nq) (FP.l2d dq)) (FP.l2d dq) (FP.dmul (FP.ddiv (FP.l2d nq) (FP.l2d dq)) (FP.l2d dq)))), .second, .unset, .unset] [(.double (FP.l2d nq))])) _
    refine XS.dload X1.here hx rfl (hb hby d3_36) rfl ?_
    show Steps p.tables e below (T1.setTop (mkF m 38 #[.val (.ref r0), .val (.int (0 : Int32)), .val (.long nq), .second, .val (.long dq), .second, .val (.double (FP.l2d nq)), .second, .val (.double (FP.l2d dq)), .second, .val (.double (FP.ddiv (FP.l2d nq) (FP.l2d dq))), .second, .val (.double (FP.dmul (FP.ddiv (FP.l2d nq) (FP.l2d dq)) (FP.l2d dq))), .second, .val (.double (own_f4 (FP.ddiv (FP.l2d nq) (FP.l2d dq)) (FP.l2d dq) (FP.dmul (FP.ddiv (FP.l2d nq) (FP.l2d dq)) (FP.l2d dq)))), .second, .unset, .unset] [(.double (FP.dmul (FP.ddiv (FP.l2d nq) (FP.l2d dq)) (FP.l2d dq))), (.double (FP.l2d nq))])) _
    refine XS.dsubS X1.here hx rfl (hb hby d3_38) rfl hn3 rfl ?_
    show Steps p.tables e below (T1.setTop (mkF m 39 #[.val (.ref r0), .val (.int (0 : Int32)), .val (.long nq), .second, .val (.long dq), .second, .val (.double (FP.l2d nq)), .second, .val (.double (FP.l2d dq)), .second, .val (.double (FP.ddiv (FP.l2d nq) (FP.l2d dq))), .second, .val (.double (FP.dmul (FP.ddiv (FP.l2d nq) (FP.l2d dq)) (FP.l2d dq))), .second, .val (.double (own_f4 (FP.ddiv (FP.l2d nq) (FP.l2d dq)) (FP.l2d dq) (FP.dmul (FP.ddiv (FP.l2d nq) (FP.l2d dq)) (FP.l2d dq)))), .second, .unset, .unset] [(.double (FP.dsub (FP.l2d nq) (FP.dmul (FP.ddiv (FP.l2d nq) (FP.l2d dq)) (FP.l2d dq))))])) _
    refine XS.dload X1.here hx rfl (hb hby d3_39) rfl ?_
    show Steps p.tables e below (T1.setTop (mkF m 41 #[.val (.ref r0), .val (.int (0 : Int32)), .val (.long nq), .second, .val (.long dq), .second, .val (.double (FP.l2d nq)), .second, .val (.double (FP.l2d dq)), .second, .val (.double (FP.ddiv (FP.l2d nq) (FP.l2d dq))), .second, .val (.double (FP.dmul (FP.ddiv (FP.l2d nq) (FP.l2d dq)) (FP.l2d dq))), .second, .val (.double (own_f4 (FP.ddiv (FP.l2d nq) (FP.l2d dq)) (FP.l2d dq) (FP.dmul (FP.ddiv (FP.l2d nq) (FP.l2d dq)) (FP.l2d dq)))), .second, .unset, .unset] [(.double (own_f4 (FP.ddiv (FP.l2d nq) (FP.l2d dq)) (FP.l2d dq) (FP.dmul (FP.ddiv (FP.l2d nq) (FP.l2d dq)) (FP.l2d dq)))), (.double (FP.dsub (FP.l2d nq) (FP.dmul (FP.ddiv (FP.l2d nq) (FP.l2d dq)) (FP.l2d dq))))])) _
    refine XS.dsubS X1.here hx rfl (hb hby d3_41) rfl hn4 rfl ?_
    show Steps p.tables e below (T1.setTop (mkF m 42 #[.val (.ref r0), .val (.int (0 : Int32)), .val (.long nq), .second, .val (.long dq), .second, .val (.double (FP.l2d nq)), .second, .val (.double (FP.l2d dq)), .second, .val (.double (FP.ddiv (FP.l2d nq) (FP.l2d dq))), .second, .val (.double (FP.dmul (FP.ddiv (FP.l2d nq) (FP.l2d dq)) (FP.l2d dq))), .second, .val (.double (own_f4 (FP.ddiv (FP.l2d nq) (FP.l2d dq)) (FP.l2d dq) (FP.dmul (FP.ddiv (FP.l2d nq) (FP.l2d dq)) (FP.l2d dq)))), .second, .unset, .unset] [(.double (FP.dsub (FP.dsub (FP.l2d nq) (FP.dmul (FP.ddiv (FP.l2d nq) (FP.l2d dq)) (FP.l2d dq))) (own_f4 (FP.ddiv (FP.l2d nq) (FP.l2d dq)) (FP.l2d dq) (FP.dmul (FP.ddiv (FP.l2d nq) (FP.l2d dq)) (FP.l2d dq)))))])) _
    refine XS.dstore X1.here hx rfl (hb hby d3_42) rfl (l' := #[.val (.ref r0), .val (.int (0 : Int32)), .val (.long nq), .second, .val (.long dq), .second, .val (.double (FP.l2d nq)), .second, .val (.double (FP.l2d dq)), .second, .val (.double (FP.ddiv (FP.l2d nq) (FP.l2d dq))), .second, .val (.double (FP.dmul (FP.ddiv (FP.l2d nq) (FP.l2d dq)) (FP.l2d dq))), .second, .val (.double (own_f4 (FP.ddiv (FP.l2d nq) (FP.l2d dq)) (FP.l2d dq) (FP.dmul (FP.ddiv (FP.l2d nq) (FP.l2d dq)) (FP.l2d dq)))), .second, .val (.double (FP.dsub (FP.dsub (FP.l2d nq) (FP.dmul (FP.ddiv (FP.l2d nq) (FP.l2d dq)) (FP.l2d dq))) (own_f4 (FP.ddiv (FP.l2d nq) (FP.l2d dq)) (FP.l2d dq) (FP.dmul (FP.ddiv (FP.l2d nq) (FP.l2d dq)) (FP.l2d dq))))), .second]) rfl ?_
    show Steps p.tables e below (T1.setTop (mkF m 44 #[.val (.ref r0), .val (.int (0 : Int32)), .val (.long nq), .second, .val (.long dq), .second, .val (.double (FP.l2d nq)), .second, .val (.double (FP.l2d dq)), .second, .val (.double (FP.ddiv (FP.l2d nq) (FP.l2d dq))), .second, .val (.double (FP.dmul (FP.ddiv (FP.l2d nq) (FP.l2d dq)) (FP.l2d dq))), .second, .val (.double (own_f4 (FP.ddiv (FP.l2d nq) (FP.l2d dq)) (FP.l2d dq) (FP.dmul (FP.ddiv (FP.l2d nq) (FP.l2d dq)) (FP.l2d dq)))), .second, .val (.double (FP.dsub (FP.dsub (FP.l2d nq) (FP.dmul (FP.ddiv (FP.l2d nq) (FP.l2d dq)) (FP.l2d dq))) (own_f4 (FP.ddiv (FP.l2d nq) (FP.l2d dq)) (FP.l2d dq) (FP.dmul (FP.ddiv (FP.l2d nq) (FP.l2d dq)) (FP.l2d dq))))), .second] [])) _
    refine XS.aloadN X1.here hx rfl (hb hby d3_44) rfl rfl ?_
    show Steps p.tables e below (T1.setTop (mkF m 45 #[.val (.ref r0), .val (.int (0 : Int32)), .val (.long nq), .second, .val (.long dq), .second, .val (.double (FP.l2d nq)), .second, .val (.double (FP.l2d dq)), .second, .val (.double (FP.ddiv (FP.l2d nq) (FP.l2d dq))), .second, .val (.double (FP.dmul (FP.ddiv (FP.l2d nq) (FP.l2d dq)) (FP.l2d dq))), .second, .val (.double (own_f4 (FP.ddiv (FP.l2d nq) (FP.l2d dq)) (FP.l2d dq) (FP.dmul (FP.ddiv (FP.l2d nq) (FP.l2d dq)) (FP.l2d dq)))), .second, .val (.double (FP.dsub (FP.dsub (FP.l2d nq) (FP.dmul (FP.ddiv (FP.l2d nq) (FP.l2d dq)) (FP.l2d dq))) (own_f4 (FP.ddiv (FP.l2d nq) (FP.l2d dq)) (FP.l2d dq) (FP.dmul (FP.ddiv (FP.l2d nq) (FP.l2d dq)) (FP.l2d dq))))), .second] [(.ref r0)])) _
    refine XS.iloadN X1.here hx rfl (hb hby d3_45) rfl ?_
    show Steps p.tables e below (T1.setTop (mkF m 46 #[.val (.ref r0), .val (.int (0 : Int32)), .val (.long nq), .second, .val (.long dq), .second, .val (.double (FP.l2d nq)), .second, .val (.double (FP.l2d dq)), .second, .val (.double (FP.ddiv (FP.l2d nq) (FP.l2d dq))), .second, .val (.double (FP.dmul (FP.ddiv (FP.l2d nq) (FP.l2d dq)) (FP.l2d dq))), .second, .val (.double (own_f4 (FP.ddiv (FP.l2d nq) (FP.l2d dq)) (FP.l2d dq) (FP.dmul (FP.ddiv (FP.l2d nq) (FP.l2d dq)) (FP.l2d dq)))), .second, .val (.double (FP.dsub (FP.dsub (FP.l2d nq) (FP.dmul (FP.ddiv (FP.l2d nq) (FP.l2d dq)) (FP.l2d dq))) (own_f4 (FP.ddiv (FP.l2d nq) (FP.l2d dq)) (FP.l2d dq) (FP.dmul (FP.ddiv (FP.l2d nq) (FP.l2d dq)) (FP.l2d dq))))), .second] [(.int (0 : Int32)), (.ref r0)])) _
    refine XS.dload X1.here hx rfl (hb hby d3_46) rfl ?_
    show Steps p.tables e below (T1.setTop (mkF m 48 #[.val (.ref r0), .val (.int (0 : Int32)), .val (.long nq), .second, .val (.long dq), .second, .val (.double (FP.l2d nq)), .second, .val (.double (FP.l2d dq)), .second, .val (.double (FP.ddiv (FP.l2d nq) (FP.l2d dq))), .second, .val (.double (FP.dmul (FP.ddiv (FP.l2d nq) (FP.l2d dq)) (FP.l2d dq))), .second, .val (.double (own_f4 (FP.ddiv (FP.l2d nq) (FP.l2d dq)) (FP.l2d dq) (FP.dmul (FP.ddiv (FP.l2d nq) (FP.l2d dq)) (FP.l2d dq)))), .second, .val (.double (FP.dsub (FP.dsub (FP.l2d nq) (FP.dmul (FP.ddiv (FP.l2d nq) (FP.l2d dq)) (FP.l2d dq))) (own_f4 (FP.ddiv (FP.l2d nq) (FP.l2d dq)) (FP.l2d dq) (FP.dmul (FP.ddiv (FP.l2d nq) (FP.l2d dq)) (FP.l2d dq))))), .second] [(.double (FP.ddiv (FP.l2d nq) (FP.l2d dq))), (.int (0 : Int32)), (.ref r0)])) _
    refine XS.dload X1.here hx rfl (hb hby d3_48) rfl ?_
    show Steps p.tables e below (T1.setTop (mkF m 50 #[.val (.ref r0), .val (.int (0 : Int32)), .val (.long nq), .second, .val (.long dq), .second, .val (.double (FP.l2d nq)), .second, .val (.double (FP.l2d dq)), .second, .val (.double (FP.ddiv (FP.l2d nq) (FP.l2d dq))), .second, .val (.double (FP.dmul (FP.ddiv (FP.l2d nq) (FP.l2d dq)) (FP.l2d dq))), .second, .val (.double (own_f4 (FP.ddiv (FP.l2d nq) (FP.l2d dq)) (FP.l2d dq) (FP.dmul (FP.ddiv (FP.l2d nq) (FP.l2d dq)) (FP.l2d dq)))), .second, .val (.double (FP.dsub (FP.dsub (FP.l2d nq) (FP.dmul (FP.ddiv (FP.l2d nq) (FP.l2d dq)) (FP.l2d dq))) (own_f4 (FP.ddiv (FP.l2d nq) (FP.l2d dq)) (FP.l2d dq) (FP.dmul (FP.ddiv (FP.l2d nq) (FP.l2d dq)) (FP.l2d dq))))), .second] [(.double (FP.dsub (FP.dsub (FP.l2d nq) (FP.dmul (FP.ddiv (FP.l2d nq) (FP.l2d dq)) (FP.l2d dq))) (own_f4 (FP.ddiv (FP.l2d nq) (FP.l2d dq)) (FP.l2d dq) (FP.dmul (FP.ddiv (FP.l2d nq) (FP.l2d dq)) (FP.l2d dq))))), (.double (FP.ddiv (FP.l2d nq) (FP.l2d dq))), (.int (0 : Int32)), (.ref r0)])) _
    refine XS.dload X1.here hx rfl (hb hby d3_50) rfl ?_
    show Steps p.tables e below (T1.setTop (mkF m 52 #[.val (.ref r0), .val (.int (0 : Int32)), .val (.long nq), .second, .val (.long dq), .second, .val (.double (FP.l2d nq)), .second, .val (.double (FP.l2d dq)), .second, .val (.double (FP.ddiv (FP.l2d nq) (FP.l2d dq))), .second, .val (.double (FP.dmul (FP.ddiv (FP.l2d nq) (FP.l2d dq)) (FP.l2d dq))), .second, .val (.double (own_f4 (FP.ddiv (FP.l2d nq) (FP.l2d dq)) (FP.l2d dq) (FP.dmul (FP.ddiv (FP.l2d nq) (FP.l2d dq)) (FP.l2d dq)))), .second, .val (.double (FP.dsub (FP.dsub (FP.l2d nq) (FP.dmul (FP.ddiv (FP.l2d nq) (FP.l2d dq)) (FP.l2d dq))) (own_f4 (FP.ddiv (FP.l2d nq) (FP.l2d dq)) (FP.l2d dq) (FP.dmul (FP.ddiv (FP.l2d nq) (FP.l2d dq)) (FP.l2d dq))))), .second] [(.double (FP.l2d dq)), (.double (FP.dsub (FP.dsub (FP.l2d nq) (FP.dmul (FP.ddiv (FP.l2d nq) (FP.l2d dq)) (FP.l2d dq))) (own_f4 (FP.ddiv (FP.l2d nq) (FP.l2d dq)) (FP.l2d dq) (FP.dmul (FP.ddiv (FP.l2d nq) (FP.l2d dq)) (FP.l2d dq))))), (.double (FP.ddiv (FP.l2d nq) (FP.l2d dq))), (.int (0 : Int32)), (.ref r0)])) _
    refine XS.ddivS X1.here hx rfl (hb hby d3_52) rfl hn5 rfl ?_
    show Steps p.tables e below (T1.setTop (mkF m 53 #[.val (.ref r0), .val (.int (0 : Int32)), .val (.long nq), .second, .val (.long dq), .second, .val (.double (FP.l2d nq)), .second, .val (.double (FP.l2d dq)), .second, .val (.double (FP.ddiv (FP.l2d nq) (FP.l2d dq))), .second, .val (.double (FP.dmul (FP.ddiv (FP.l2d nq) (FP.l2d dq)) (FP.l2d dq))), .second, .val (.double (own_f4 (FP.ddiv (FP.l2d nq) (FP.l2d dq)) (FP.l2d dq) (FP.dmul (FP.ddiv (FP.l2d nq) (FP.l2d dq)) (FP.l2d dq)))), .second, .val (.double (FP.dsub (FP.dsub (FP.l2d nq) (FP.dmul (FP.ddiv (FP.l2d nq) (FP.l2d dq)) (FP.l2d dq))) (own_f4 (FP.ddiv (FP.l2d nq) (FP.l2d dq)) (FP.l2d dq) (FP.dmul (FP.ddiv (FP.l2d nq) (FP.l2d dq)) (FP.l2d dq))))), .second] [(.double (FP.ddiv (FP.dsub (FP.dsub (FP.l2d nq) (FP.dmul (FP.ddiv (FP.l2d nq) (FP.l2d dq)) (FP.l2d dq))) (own_f4 (FP.ddiv (FP.l2d nq) (FP.l2d dq)) (FP.l2d dq) (FP.dmul (FP.ddiv (FP.l2d nq) (FP.l2d dq)) (FP.l2d dq)))) (FP.l2d dq))), (.double (FP.ddiv (FP.l2d nq) (FP.l2d dq))), (.int (0 : Int32)), (.ref r0)])) _
    refine st2.trans ?_
    show Steps p.tables e below (T2.setTop (mkF m 56 #[.val (.ref r0), .val (.int (0 : Int32)), .val (.long nq), .second, .val (.long dq), .second, .val (.double (FP.l2d nq)), .second, .val (.double (FP.l2d dq)), .second, .val (.double (FP.ddiv (FP.l2d nq) (FP.l2d dq))), .second, .val (.double (FP.dmul (FP.ddiv (FP.l2d nq) (FP.l2d dq)) (FP.l2d dq))), .second, .val (.double (own_f4 (FP.ddiv (FP.l2d nq) (FP.l2d dq)) (FP.l2d dq) (FP.dmul (FP.ddiv (FP.l2d nq) (FP.l2d dq)) (FP.l2d dq)))), .second, .val (.double (FP.dsub (FP.dsub (FP.l2d nq) (FP.dmul (FP.ddiv (FP.l2d nq) (FP.l2d dq)) (FP.l2d dq))) (own_f4 (FP.ddiv (FP.l2d nq) (FP.l2d dq)) (FP.l2d dq) (FP.dmul (FP.ddiv (FP.l2d nq) (FP.l2d dq)) (FP.l2d dq))))), .second] [])) _
    exact X2.returnOut hx Bd.returns (hb hby d3_56) hr
  · show Q_setQuotient_0 Z r0 nq dq hA lA kH kL ua ub va vb h0 n0 _ T2.heap _
    exact ⟨rfl, N2, kp7, Vh2, Vl2⟩
def ok3_1 (nq dq : Int64) : Prop := Jvm.Free.Fl.NoNaN64 (FP.ddiv (FP.l2d nq) (FP.l2d dq)) ∧ Jvm.Free.Fl.NoNaN64 (FP.dmul (FP.ddiv (FP.l2d nq) (FP.l2d dq)) (FP.l2d dq)) ∧ ok4 (FP.ddiv (FP.l2d nq) (FP.l2d dq)) (FP.l2d dq) (FP.dmul (FP.ddiv (FP.l2d nq) (FP.l2d dq)) (FP.l2d dq)) ∧ Jvm.Free.Fl.NoNaN64 (FP.dsub (FP.l2d nq) (FP.dmul (FP.ddiv (FP.l2d nq) (FP.l2d dq)) (FP.l2d dq))) ∧ Jvm.Free.Fl.NoNaN64 (FP.dsub (FP.dsub (FP.l2d nq) (FP.dmul (FP.ddiv (FP.l2d nq) (FP.l2d dq)) (FP.l2d dq))) (own_f4 (FP.ddiv (FP.l2d nq) (FP.l2d dq)) (FP.l2d dq) (FP.dmul (FP.ddiv (FP.l2d nq) (FP.l2d dq)) (FP.l2d dq)))) ∧ Jvm.Free.Fl.NoNaN64 (FP.ddiv (FP.dsub (FP.dsub (FP.l2d nq) (FP.dmul (FP.ddiv (FP.l2d nq) (FP.l2d dq)) (FP.l2d dq))) (own_f4 (FP.ddiv (FP.l2d nq) (FP.l2d dq)) (FP.l2d dq) (FP.dmul (FP.ddiv (FP.l2d nq) (FP.l2d dq)) (FP.l2d dq)))) (FP.l2d dq)) ∧ ok5_1 (FP.ddiv (FP.l2d nq) (FP.l2d dq)) (FP.ddiv (FP.dsub (FP.dsub (FP.l2d nq) (FP.dmul (FP.ddiv (FP.l2d nq) (FP.l2d dq)) (FP.l2d dq))) (own_f4 (FP.ddiv (FP.l2d nq) (FP.l2d dq)) (FP.l2d dq) (FP.dmul (FP.ddiv (FP.l2d nq) (FP.l2d dq)) (FP.l2d dq)))) (FP.l2d dq)) ∧ True
def Q_setQuotient_1 (Z : State) (r0 : Addr) (nq : Int64) (dq : Int64) (hA lA : Addr) (kH kL : ClassId) (ua ub va vb : UInt64) (h0 : Heap) (n0 : Nat) (v : Option Value) (h : Heap) (L : List Loc) : Prop := v = none ∧ Fr n0 L ∧ Keep h0 h [hA, lA] ∧ Arv Z h hA kH .double (2 : Int32) [(.double ua), (.double (own_qh nq dq))] (.double 0) ∧ Arv Z h lA kL .double (2 : Int32) [(.double va), (.double (own_ql nq dq))] (.double 0)
theorem ef_rm_setQuotient_1 (m : MethodId) (x0 : Addr) (x1 : Int32) (x2 : Int64) (x3 : Int64) : entryFrame m #[(.ref x0), (.int x1), (.long x2), (.long x3)] 18 = mkF m 0 #[.val (.ref x0), .val (.int x1), .val (.long x2), .second, .val (.long x3), .second, .unset, .unset, .unset, .unset, .unset, .unset, .unset, .unset, .unset, .unset, .unset, .unset] [] := by first | (simp [entryFrame, mkF, argsToLocals, Value.category]; done) | rfl
set_option maxRecDepth 65536 in
set_option maxHeartbeats 40000000 in
theorem rm_setQuotient_1 (l : Launch) (Z : State) (a0 : Array Value) (hw : ∀ d ∈ tables_1, d.before a0 Z = true) (ws : List Jvm.Cond) (r0 : Addr) (nq : Int64) (dq : Int64) (hA lA : Addr) (kH kL : ClassId) (ua ub va vb : UInt64) (h0 : Heap) (n0 : Nat) (Z0 : n0 ≤ h0.size) (E0 : Exa Z h0 r0 "com/example/degree/degree/retrieval/DoubleDoubles") (Fh : Fld Z h0 r0 "com/example/degree/degree/retrieval/DoubleDoubles" "high" "[D" (.ref hA)) (Fl : Fld Z h0 r0 "com/example/degree/degree/retrieval/DoubleDoubles" "low" "[D" (.ref lA)) (Ah : Arv Z h0 hA kH .double (2 : Int32) [(.double ua), (.double ub)] (.double 0)) (Al : Arv Z h0 lA kL .double (2 : Int32) [(.double va), (.double vb)] (.double 0)) (g_hA : n0 ≤ hA) (g_lA : n0 ≤ lA) (hne : hA ≠ lA) (hz1 : r0 ≠ hA) (hz2 : r0 ≠ lA) (hok : ok3_1 nq dq) :
    MetFree l (⟨"com/example/degree/degree/retrieval/DoubleDoubles", "setQuotient", "(IJJ)V"⟩ : MethodName) (head1 (Jvm.Cond.code (⟨"com/example/degree/degree/retrieval/DoubleDoubles", "setQuotient", "(IJJ)V"⟩ : MethodName) prog_43_method_4_code 18 none :: ws) ({ frames := 2, cells := 0, slots := 0, locals := 42 } : Room)) (fun a U => a = #[(.ref r0), (.int (1 : Int32)), (.long nq), (.long dq)] ∧ Z.Warmed39 U.vm ∧ U.heap = h0) (fun _ _ _ _ _ => True) (fun _ U o U' => ∃ v L, o = .returned v ∧ Q_setQuotient_1 Z r0 nq dq hA lA kH kL ua ub va vb h0 n0 v U'.heap L ∧ FrameEnd U o U' L ({ frames := 2, cells := 0, slots := 0, locals := 42 } : Room).cells ({ frames := 2, cells := 0, slots := 0, locals := 42 } : Room).slots) := by
  refine MetFree.of_bodySF (plainFor_of_name pnc_com_example_degree_degree_retrieval_DoubleDoubles) hisR ?_
  intro p e s m args below meth c s₁ Bd hml0 hP hK
  obtain ⟨rfl, hZ, hh⟩ := hP
  have hx := Bd.exec
  have hby := Bd.bytes
  have hml : c.maxLocals = 18 := hml0
  have hown : s.vm.findClass "com/example/degree/degree/retrieval/DoubleDoubles" = some m.cls := findClass_of_methodNamed Bd.named
  have hnm := (name_of_methodNamed Bd.named Bd.method).1
  have X0 : Stand p l e ({ frames := 2, cells := 0, slots := 0, locals := 42 } : Room) s m #[(.ref r0), (.int (1 : Int32)), (.long nq), (.long dq)] below meth c s₁ [] 0 0 := Stand.of_body Bd
  have e0 : s₁.heap = h0 := by rw [← hh, Bd.state]; rfl
  have N0 := Fr.nil n0
  have kp0 : Keep h0 h0 [hA, lA] := Keep.refl _ _
  have G0 : ∀ t, Steps p.tables e below (s₁.setTop (mkF m 0 #[.val (.ref r0), .val (.int (1 : Int32)), .val (.long nq), .second, .val (.long dq), .second, .unset, .unset, .unset, .unset, .unset, .unset, .unset, .unset, .unset, .unset, .unset, .unset] [])) t → Steps p.tables e below (s₁.setTop (entryFrame m #[(.ref r0), (.int (1 : Int32)), (.long nq), (.long dq)] 18)) t := fun t k => castTop (ef_rm_setQuotient_1 m r0 (1 : Int32) nq dq) k
  obtain ⟨hn0, hn1, hn2, hn3, hn4, hn5, hn6, -⟩ := hok
  obtain ⟨_, _, ⟨T1, L1, k1, n1⟩, -, X1, ⟨Lc1, hQ1, l1, y1, z1⟩, st1⟩ := Jvm.LawKit.callS X0 hx (y := (⟨"com/example/degree/degree/retrieval/DoubleDoubles", "twoProductError", "(DDD)D"⟩ : MethodName)) hown (mvT hZ (hq hw 22 rfl)) (mvT hZ (hq hw 23 rfl)) (mvT hZ (hq hw 5 rfl)) (mvT hZ (hq hw 24 rfl)) (by decide) (backOf (W := 0) (rm4 l Z a0 hw [] (FP.ddiv (FP.l2d nq) (FP.l2d dq)) (FP.l2d dq) (FP.dmul (FP.ddiv (FP.l2d nq) (FP.l2d dq)) (FP.l2d dq))  h0 n0 Z0 hn2) hZ (hq hw 24 rfl) (hq hw 5 rfl) (by decide) (by decide)) (g := (mkF m 29 #[.val (.ref r0), .val (.int (1 : Int32)), .val (.long nq), .second, .val (.long dq), .second, .val (.double (FP.l2d nq)), .second, .val (.double (FP.l2d dq)), .second, .val (.double (FP.ddiv (FP.l2d nq) (FP.l2d dq))), .second, .val (.double (FP.dmul (FP.ddiv (FP.l2d nq) (FP.l2d dq)) (FP.l2d dq))), .second, .unset, .unset, .unset, .unset] [(.double (FP.dmul (FP.ddiv (FP.l2d nq) (FP.l2d dq)) (FP.l2d dq))), (.double (FP.l2d dq)), (.double (FP.ddiv (FP.l2d nq) (FP.l2d dq)))])) rfl (by rw [hml]; rfl) (argsL := [(.double (FP.ddiv (FP.l2d nq) (FP.l2d dq))), (.double (FP.l2d dq)), (.double (FP.dmul (FP.ddiv (FP.l2d nq) (FP.l2d dq)) (FP.l2d dq)))]) (rest := []) (lenOf pd_0 rfl) rfl (by show 2 * 0 + _ ≤ _; exact Nat.le_of_eq rfl) (hb hby d3_29) (fun _ _ => ⟨rfl, e0, (by decide : 0 + 0 ≤ _), (by decide : 0 + 0 ≤ _)⟩)
  dsimp only [Pt.U, Pt.locs, Pt.cells, Pt.slots] at X1 l1 y1 z1 st1 hQ1
  subst l1 y1 z1
  obtain ⟨rfl, N1q, eh1⟩ := hQ1
  have N1 := Fr.app N0 N1q
  obtain ⟨cq2, q2, q2'⟩ := E0.cell
  obtain ⟨_, _, ⟨T2, L2, k2, n2⟩, -, X2, ⟨Lc2, hQ2, l2, y2, z2⟩, st2⟩ := X1.privateBack hx (y := (⟨"com/example/degree/degree/retrieval/DoubleDoubles", "setNormalised", "(IDD)V"⟩ : MethodName)) hown (mvT hZ (hq hw 26 rfl)) (mvT hZ (hq hw 27 rfl)) (own_selp (mvT hZ (hq hw 4 rfl)) (mvT hZ (hq hw 27 rfl)) (mvP hZ (hq hw 28 rfl)) (by decide)) (Cond.privateMethod_at (mvP hZ (hq hw 28 rfl) (args := #[]))) (mvT hZ (hq hw 29 rfl)) (by decide) (backOf (W := 0) (rm_setNormalised_1 l Z a0 hw [] r0 (FP.ddiv (FP.l2d nq) (FP.l2d dq)) (FP.ddiv (FP.dsub (FP.dsub (FP.l2d nq) (FP.dmul (FP.ddiv (FP.l2d nq) (FP.l2d dq)) (FP.l2d dq))) (own_f4 (FP.ddiv (FP.l2d nq) (FP.l2d dq)) (FP.l2d dq) (FP.dmul (FP.ddiv (FP.l2d nq) (FP.l2d dq)) (FP.l2d dq)))) (FP.l2d dq)) hA lA kH kL ua ub va vb h0 n0 Z0 E0 Fh Fl Ah Al g_hA g_lA hne hz1 hz2 hn6) hZ (hq hw 29 rfl) (hq hw 5 rfl) (by decide) (by decide)) (g := (mkF m 53 #[.val (.ref r0), .val (.int (1 : Int32)), .val (.long nq), .second, .val (.long dq), .second, .val (.double (FP.l2d nq)), .second, .val (.double (FP.l2d dq)), .second, .val (.double (FP.ddiv (FP.l2d nq) (FP.l2d dq))), .second, .val (.double (FP.dmul (FP.ddiv (FP.l2d nq) (FP.l2d dq)) (FP.l2d dq))), .second, .val (.double (own_f4 (FP.ddiv (FP.l2d nq) (FP.l2d dq)) (FP.l2d dq) (FP.dmul (FP.ddiv (FP.l2d nq) (FP.l2d dq)) (FP.l2d dq)))), .second, .val (.double (FP.dsub (FP.dsub (FP.l2d nq) (FP.dmul (FP.ddiv (FP.l2d nq) (FP.l2d dq)) (FP.l2d dq))) (own_f4 (FP.ddiv (FP.l2d nq) (FP.l2d dq)) (FP.l2d dq) (FP.dmul (FP.ddiv (FP.l2d nq) (FP.l2d dq)) (FP.l2d dq))))), .second] [(.double (FP.ddiv (FP.dsub (FP.dsub (FP.l2d nq) (FP.dmul (FP.ddiv (FP.l2d nq) (FP.l2d dq)) (FP.l2d dq))) (own_f4 (FP.ddiv (FP.l2d nq) (FP.l2d dq)) (FP.l2d dq) (FP.dmul (FP.ddiv (FP.l2d nq) (FP.l2d dq)) (FP.l2d dq)))) (FP.l2d dq))), (.double (FP.ddiv (FP.l2d nq) (FP.l2d dq))), (.int (1 : Int32)), (.ref r0)])) rfl (by rw [hml]; rfl) (Steps.refl _) (a := r0) (by rw [eh1]; exact q2) q2' (argsL := [(.int (1 : Int32)), (.double (FP.ddiv (FP.l2d nq) (FP.l2d dq))), (.double (FP.ddiv (FP.dsub (FP.dsub (FP.l2d nq) (FP.dmul (FP.ddiv (FP.l2d nq) (FP.l2d dq)) (FP.l2d dq))) (own_f4 (FP.ddiv (FP.l2d nq) (FP.l2d dq)) (FP.l2d dq) (FP.dmul (FP.ddiv (FP.l2d nq) (FP.l2d dq)) (FP.l2d dq)))) (FP.l2d dq)))]) (rest := []) (lenOf pd_1 rfl) rfl (by show 2 * 0 + _ ≤ _; exact Nat.le_of_eq rfl) (hb hby d3_53) (fun _ _ => ⟨rfl, eh1, (by decide : 0 + 0 ≤ _), (by decide : 0 + 0 ≤ _)⟩)
  dsimp only [Pt.U, Pt.locs, Pt.cells, Pt.slots] at X2 l2 y2 z2 st2 hQ2
  subst l2 y2 z2
  obtain ⟨rfl, N2q, K2, Vh2, Vl2⟩ := hQ2
  have N2 := Fr.app N1 N2q
  have fa3 := E0.keep K2
  have fa4 := Fh.keep K2 (ninS hz1 (ninS hz2 nin0))
  have fa5 := Fl.keep K2 (ninS hz1 (ninS hz2 nin0))
  have z6 : n0 ≤ T2.heap.size := Nat.le_trans Z0 K2.1
  have kp7 : Keep h0 T2.heap [hA, lA] := kp0.trans K2 (allS (Or.inl (List.mem_of_getElem? (i := 0) rfl)) (allS (Or.inl (List.mem_of_getElem? (i := 1) rfl)) all0))
  obtain ⟨fs, hr, hrun, hended, hW, hsame⟩ := X2.leave (v := none) (fun _ => rfl)
  refine ⟨_, _, G0 _ ?_, hrun, hended, _, _, rfl, ?_, ⟨_, rfl⟩, hW, hsame.mono (by decide) (by decide)⟩
  · skip
    show Steps p.tables e below (s₁.setTop (mkF m 0 #[.val (.ref r0), .val (.int (1 : Int32)), .val (.long nq), .second, .val (.long dq), .second, .unset, .unset, .unset, .unset, .unset, .unset, .unset, .unset, .unset, .unset, .unset, .unset] [])) _
    refine XS.lloadN X0.here hx rfl (hb hby d3_0) rfl ?_
    show Steps p.tables e below (s₁.setTop (mkF m 1 #[.val (.ref r0), .val (.int (1 : Int32)), .val (.long nq), .second, .val (.long dq), .second, .unset, .unset, .unset, .unset, .unset, .unset, .unset, .unset, .unset, .unset, .unset, .unset] [(.long nq)])) _
    refine XS.l2dS X0.here hx rfl (hb hby d3_1) rfl rfl ?_
    show Steps p.tables e below (s₁.setTop (mkF m 2 #[.val (.ref r0), .val (.int (1 : Int32)), .val (.long nq), .second, .val (.long dq), .second, .unset, .unset, .unset, .unset, .unset, .unset, .unset, .unset, .unset, .unset, .unset, .unset] [(.double (FP.l2d nq))])) _
    refine XS.dstore X0.here hx rfl (hb hby d3_2) rfl (l' := #[.val (.ref r0), .val (.int (1 : Int32)), .val (.long nq), .second, .val (.long dq), .second, .val (.double (FP.l2d nq)), .second, .unset, .unset, .unset, .unset, .unset, .unset, .unset, .unset, .unset, .unset]) rfl ?_
    show Steps p.tables e below (s₁.setTop (mkF m 4 #[.val (.ref r0), .val (.int (1 : Int32)), .val (.long nq), .second, .val (.long dq), .second, .val (.double (FP.l2d nq)), .second, .unset, .unset, .unset, .unset, .unset, .unset, .unset, .unset, .unset, .unset] [])) _
    refine XS.lload X0.here hx rfl (hb hby d3_4) rfl ?_
    show Steps p.tables e below (s₁.setTop (mkF m 6 #[.val (.ref r0), .val (.int (1 : Int32)), .val (.long nq), .second, .val (.long dq), .second, .val (.double (FP.l2d nq)), .second, .unset, .unset, .unset, .unset, .unset, .unset, .unset, .unset, .unset, .unset] [(.long dq)])) _
    refine XS.l2dS X0.here hx rfl (hb hby d3_6) rfl rfl ?_
    show Steps p.tables e below (s₁.setTop (mkF m 7 #[.val (.ref r0), .val (.int (1 : Int32)), .val (.long nq), .second, .val (.long dq), .second, .val (.double (FP.l2d nq)), .second, .unset, .unset, .unset, .unset, .unset, .unset, .unset, .unset, .unset, .unset] [(.double (FP.l2d dq))])) _
    refine XS.dstore X0.here hx rfl (hb hby d3_7) rfl (l' := #[.val (.ref r0), .val (.int (1 : Int32)), .val (.long nq), .second, .val (.long dq), .second, .val (.double (FP.l2d nq)), .second, .val (.double (FP.l2d dq)), .second, .unset, .unset, .unset, .unset, .unset, .unset, .unset, .unset]) rfl ?_
    show Steps p.tables e below (s₁.setTop (mkF m 9 #[.val (.ref r0), .val (.int (1 : Int32)), .val (.long nq), .second, .val (.long dq), .second, .val (.double (FP.l2d nq)), .second, .val (.double (FP.l2d dq)), .second, .unset, .unset, .unset, .unset, .unset, .unset, .unset, .unset] [])) _
    refine XS.dload X0.here hx rfl (hb hby d3_9) rfl ?_
    show Steps p.tables e below (s₁.setTop (mkF m 11 #[.val (.ref r0), .val (.int (1 : Int32)), .val (.long nq), .second, .val (.long dq), .second, .val (.double (FP.l2d nq)), .second, .val (.double (FP.l2d dq)), .second, .unset, .unset, .unset, .unset, .unset, .unset, .unset, .unset] [(.double (FP.l2d nq))])) _
    refine XS.dload X0.here hx rfl (hb hby d3_11) rfl ?_
    show Steps p.tables e below (s₁.setTop (mkF m 13 #[.val (.ref r0), .val (.int (1 : Int32)), .val (.long nq), .second, .val (.long dq), .second, .val (.double (FP.l2d nq)), .second, .val (.double (FP.l2d dq)), .second, .unset, .unset, .unset, .unset, .unset, .unset, .unset, .unset] [(.double (FP.l2d dq)), (.double (FP.l2d nq))])) _
    refine XS.ddivS X0.here hx rfl (hb hby d3_13) rfl hn0 rfl ?_
    show Steps p.tables e below (s₁.setTop (mkF m 14 #[.val (.ref r0), .val (.int (1 : Int32)), .val (.long nq), .second, .val (.long dq), .second, .val (.double (FP.l2d nq)), .second, .val (.double (FP.l2d dq)), .second, .unset, .unset, .unset, .unset, .unset, .unset, .unset, .unset] [(.double (FP.ddiv (FP.l2d nq) (FP.l2d dq)))])) _
    refine XS.dstore X0.here hx rfl (hb hby d3_14) rfl (l' := #[.val (.ref r0), .val (.int (1 : Int32)), .val (.long nq), .second, .val (.long dq), .second, .val (.double (FP.l2d nq)), .second, .val (.double (FP.l2d dq)), .second, .val (.double (FP.ddiv (FP.l2d nq) (FP.l2d dq))), .second, .unset, .unset, .unset, .unset, .unset, .unset]) rfl ?_
    show Steps p.tables e below (s₁.setTop (mkF m 16 #[.val (.ref r0), .val (.int (1 : Int32)), .val (.long nq), .second, .val (.long dq), .second, .val (.double (FP.l2d nq)), .second, .val (.double (FP.l2d dq)), .second, .val (.double (FP.ddiv (FP.l2d nq) (FP.l2d dq))), .second, .unset, .unset, .unset, .unset, .unset, .unset] [])) _
    refine XS.dload X0.here hx rfl (hb hby d3_16) rfl ?_
    show Steps p.tables e below (s₁.setTop (mkF m 18 #[.val (.ref r0), .val (.int (1 : Int32)), .val (.long nq), .second, .val (.long dq), .second, .val (.double (FP.l2d nq)), .second, .val (.double (FP.l2d dq)), .second, .val (.double (FP.ddiv (FP.l2d nq) (FP.l2d dq))), .second, .unset, .unset, .unset, .unset, .unset, .unset] [(.double (FP.ddiv (FP.l2d nq) (FP.l2d dq)))])) _
    refine XS.dload X0.here hx rfl (hb hby d3_18) rfl ?_
    show Steps p.tables e below (s₁.setTop (mkF m 20 #[.val (.ref r0), .val (.int (1 : Int32)), .val (.long nq), .second, .val (.long dq), .second, .val (.double (FP.l2d nq)), .second, .val (.double (FP.l2d dq)), .second, .val (.double (FP.ddiv (FP.l2d nq) (FP.l2d dq))), .second, .unset, .unset, .unset, .unset, .unset, .unset] [(.double (FP.l2d dq)), (.double (FP.ddiv (FP.l2d nq) (FP.l2d dq)))])) _
    refine XS.dmulS X0.here hx rfl (hb hby d3_20) rfl hn1 rfl ?_
    show Steps p.tables e below (s₁.setTop (mkF m 21 #[.val (.ref r0), .val (.int (1 : Int32)), .val (.long nq), .second, .val (.long dq), .second, .val (.double (FP.l2d nq)), .second, .val (.double (FP.l2d dq)), .second, .val (.double (FP.ddiv (FP.l2d nq) (FP.l2d dq))), .second, .unset, .unset, .unset, .unset, .unset, .unset] [(.double (FP.dmul (FP.ddiv (FP.l2d nq) (FP.l2d dq)) (FP.l2d dq)))])) _
    refine XS.dstore X0.here hx rfl (hb hby d3_21) rfl (l' := #[.val (.ref r0), .val (.int (1 : Int32)), .val (.long nq), .second, .val (.long dq), .second, .val (.double (FP.l2d nq)), .second, .val (.double (FP.l2d dq)), .second, .val (.double (FP.ddiv (FP.l2d nq) (FP.l2d dq))), .second, .val (.double (FP.dmul (FP.ddiv (FP.l2d nq) (FP.l2d dq)) (FP.l2d dq))), .second, .unset, .unset, .unset, .unset]) rfl ?_
    show Steps p.tables e below (s₁.setTop (mkF m 23 #[.val (.ref r0), .val (.int (1 : Int32)), .val (.long nq), .second, .val (.long dq), .second, .val (.double (FP.l2d nq)), .second, .val (.double (FP.l2d dq)), .second, .val (.double (FP.ddiv (FP.l2d nq) (FP.l2d dq))), .second, .val (.double (FP.dmul (FP.ddiv (FP.l2d nq) (FP.l2d dq)) (FP.l2d dq))), .second, .unset, .unset, .unset, .unset] [])) _
    refine XS.dload X0.here hx rfl (hb hby d3_23) rfl ?_
    show Steps p.tables e below (s₁.setTop (mkF m 25 #[.val (.ref r0), .val (.int (1 : Int32)), .val (.long nq), .second, .val (.long dq), .second, .val (.double (FP.l2d nq)), .second, .val (.double (FP.l2d dq)), .second, .val (.double (FP.ddiv (FP.l2d nq) (FP.l2d dq))), .second, .val (.double (FP.dmul (FP.ddiv (FP.l2d nq) (FP.l2d dq)) (FP.l2d dq))), .second, .unset, .unset, .unset, .unset] [(.double (FP.ddiv (FP.l2d nq) (FP.l2d dq)))])) _
    refine XS.dload X0.here hx rfl (hb hby d3_25) rfl ?_
    show Steps p.tables e below (s₁.setTop (mkF m 27 #[.val (.ref r0), .val (.int (1 : Int32)), .val (.long nq), .second, .val (.long dq), .second, .val (.double (FP.l2d nq)), .second, .val (.double (FP.l2d dq)), .second, .val (.double (FP.ddiv (FP.l2d nq) (FP.l2d dq))), .second, .val (.double (FP.dmul (FP.ddiv (FP.l2d nq) (FP.l2d dq)) (FP.l2d dq))), .second, .unset, .unset, .unset, .unset] [(.double (FP.l2d dq)), (.double (FP.ddiv (FP.l2d nq) (FP.l2d dq)))])) _
    refine XS.dload X0.here hx rfl (hb hby d3_27) rfl ?_
    show Steps p.tables e below (s₁.setTop (mkF m 29 #[.val (.ref r0), .val (.int (1 : Int32)), .val (.long nq), .second, .val (.long dq), .second, .val (.double (FP.l2d nq)), .second, .val (.double (FP.l2d dq)), .second, .val (.double (FP.ddiv (FP.l2d nq) (FP.l2d dq))), .second, .val (.double (FP.dmul (FP.ddiv (FP.l2d nq) (FP.l2d dq)) (FP.l2d dq))), .second, .unset, .unset, .unset, .unset] [(.double (FP.dmul (FP.ddiv (FP.l2d nq) (FP.l2d dq)) (FP.l2d dq))), (.double (FP.l2d dq)), (.double (FP.ddiv (FP.l2d nq) (FP.l2d dq)))])) _
    refine st1 _ ?_
    show Steps p.tables e below (T1.setTop (mkF m 32 #[.val (.ref r0), .val (.int (1 : Int32)), .val (.long nq), .second, .val (.long dq), .second, .val (.double (FP.l2d nq)), .second, .val (.double (FP.l2d dq)), .second, .val (.double (FP.ddiv (FP.l2d nq) (FP.l2d dq))), .second, .val (.double (FP.dmul (FP.ddiv (FP.l2d nq) (FP.l2d dq)) (FP.l2d dq))), .second, .unset, .unset, .unset, .unset] [(.double (own_f4 (FP.ddiv (FP.l2d nq) (FP.l2d dq)) (FP.l2d dq) (FP.dmul (FP.ddiv (FP.l2d nq) (FP.l2d dq)) (FP.l2d dq))))])) _
    refine XS.dstore X1.here hx rfl (hb hby d3_32) rfl (l' := #[.val (.ref r0), .val (.int (1 : Int32)), .val (.long nq), .second, .val (.long dq), .second, .val (.double (FP.l2d nq)), .second, .val (.double (FP.l2d dq)), .second, .val (.double (FP.ddiv (FP.l2d nq) (FP.l2d dq))), .second, .val (.double (FP.dmul (FP.ddiv (FP.l2d nq) (FP.l2d dq)) (FP.l2d dq))), .second, .val (.double (own_f4 (FP.ddiv (FP.l2d nq) (FP.l2d dq)) (FP.l2d dq) (FP.dmul (FP.ddiv (FP.l2d nq) (FP.l2d dq)) (FP.l2d dq)))), .second, .unset, .unset]) rfl ?_
    show Steps p.tables e below (T1.setTop (mkF m 34 #[.val (.ref r0), .val (.int (1 : Int32)), .val (.long nq), .second, .val (.long dq), .second, .val (.double (FP.l2d nq)), .second, .val (.double (FP.l2d dq)), .second, .val (.double (FP.ddiv (FP.l2d nq) (FP.l2d dq))), .second, .val (.double (FP.dmul (FP.ddiv (FP.l2d nq) (FP.l2d dq)) (FP.l2d dq))), .second, .val (.double (own_f4 (FP.ddiv (FP.l2d nq) (FP.l2d dq)) (FP.l2d dq) (FP.dmul (FP.ddiv (FP.l2d nq) (FP.l2d dq)) (FP.l2d dq)))), .second, .unset, .unset] [])) _
    refine XS.dload X1.here hx rfl (hb hby d3_34) rfl ?_
    show Steps p.tables e below (T1.setTop (mkF m 36 #[.val (.ref r0), .val (.int (1 : Int32)), .val (.long nq), .second, .val (.long dq), .second, .val (.double (FP.l2d nq)), .second, .val (.double (FP.l2d dq)), .second, .val (.double (FP.ddiv (FP.l2d nq) (FP.l2d dq))), .second, .val (.double (FP.dmul (FP.ddiv (FP.l2d nq) (FP.l2d dq)) (FP.l2d dq))), .second, .val (.double (own_f4 (FP.ddiv (FP.l2d nq) (FP.l2d dq)) (FP.l2d dq) (FP.dmul (FP.ddiv (FP.l2d nq) (FP.l2d dq)) (FP.l2d dq)))), .second, .unset, .unset] [(.double (FP.l2d nq))])) _
    refine XS.dload X1.here hx rfl (hb hby d3_36) rfl ?_
    show Steps p.tables e below (T1.setTop (mkF m 38 #[.val (.ref r0), .val (.int (1 : Int32)), .val (.long nq), .second, .val (.long dq), .second, .val (.double (FP.l2d nq)), .second, .val (.double (FP.l2d dq)), .second, .val (.double (FP.ddiv (FP.l2d nq) (FP.l2d dq))), .second, .val (.double (FP.dmul (FP.ddiv (FP.l2d nq) (FP.l2d dq)) (FP.l2d dq))), .second, .val (.double (own_f4 (FP.ddiv (FP.l2d nq) (FP.l2d dq)) (FP.l2d dq) (FP.dmul (FP.ddiv (FP.l2d nq) (FP.l2d dq)) (FP.l2d dq)))), .second, .unset, .unset] [(.double (FP.dmul (FP.ddiv (FP.l2d nq) (FP.l2d dq)) (FP.l2d dq))), (.double (FP.l2d nq))])) _
    refine XS.dsubS X1.here hx rfl (hb hby d3_38) rfl hn3 rfl ?_
    show Steps p.tables e below (T1.setTop (mkF m 39 #[.val (.ref r0), .val (.int (1 : Int32)), .val (.long nq), .second, .val (.long dq), .second, .val (.double (FP.l2d nq)), .second, .val (.double (FP.l2d dq)), .second, .val (.double (FP.ddiv (FP.l2d nq) (FP.l2d dq))), .second, .val (.double (FP.dmul (FP.ddiv (FP.l2d nq) (FP.l2d dq)) (FP.l2d dq))), .second, .val (.double (own_f4 (FP.ddiv (FP.l2d nq) (FP.l2d dq)) (FP.l2d dq) (FP.dmul (FP.ddiv (FP.l2d nq) (FP.l2d dq)) (FP.l2d dq)))), .second, .unset, .unset] [(.double (FP.dsub (FP.l2d nq) (FP.dmul (FP.ddiv (FP.l2d nq) (FP.l2d dq)) (FP.l2d dq))))])) _
    refine XS.dload X1.here hx rfl (hb hby d3_39) rfl ?_
    show Steps p.tables e below (T1.setTop (mkF m 41 #[.val (.ref r0), .val (.int (1 : Int32)), .val (.long nq), .second, .val (.long dq), .second, .val (.double (FP.l2d nq)), .second, .val (.double (FP.l2d dq)), .second, .val (.double (FP.ddiv (FP.l2d nq) (FP.l2d dq))), .second, .val (.double (FP.dmul (FP.ddiv (FP.l2d nq) (FP.l2d dq)) (FP.l2d dq))), .second, .val (.double (own_f4 (FP.ddiv (FP.l2d nq) (FP.l2d dq)) (FP.l2d dq) (FP.dmul (FP.ddiv (FP.l2d nq) (FP.l2d dq)) (FP.l2d dq)))), .second, .unset, .unset] [(.double (own_f4 (FP.ddiv (FP.l2d nq) (FP.l2d dq)) (FP.l2d dq) (FP.dmul (FP.ddiv (FP.l2d nq) (FP.l2d dq)) (FP.l2d dq)))), (.double (FP.dsub (FP.l2d nq) (FP.dmul (FP.ddiv (FP.l2d nq) (FP.l2d dq)) (FP.l2d dq))))])) _
    refine XS.dsubS X1.here hx rfl (hb hby d3_41) rfl hn4 rfl ?_
    show Steps p.tables e below (T1.setTop (mkF m 42 #[.val (.ref r0), .val (.int (1 : Int32)), .val (.long nq), .second, .val (.long dq), .second, .val (.double (FP.l2d nq)), .second, .val (.double (FP.l2d dq)), .second, .val (.double (FP.ddiv (FP.l2d nq) (FP.l2d dq))), .second, .val (.double (FP.dmul (FP.ddiv (FP.l2d nq) (FP.l2d dq)) (FP.l2d dq))), .second, .val (.double (own_f4 (FP.ddiv (FP.l2d nq) (FP.l2d dq)) (FP.l2d dq) (FP.dmul (FP.ddiv (FP.l2d nq) (FP.l2d dq)) (FP.l2d dq)))), .second, .unset, .unset] [(.double (FP.dsub (FP.dsub (FP.l2d nq) (FP.dmul (FP.ddiv (FP.l2d nq) (FP.l2d dq)) (FP.l2d dq))) (own_f4 (FP.ddiv (FP.l2d nq) (FP.l2d dq)) (FP.l2d dq) (FP.dmul (FP.ddiv (FP.l2d nq) (FP.l2d dq)) (FP.l2d dq)))))])) _
    refine XS.dstore X1.here hx rfl (hb hby d3_42) rfl (l' := #[.val (.ref r0), .val (.int (1 : Int32)), .val (.long nq), .second, .val (.long dq), .second, .val (.double (FP.l2d nq)), .second, .val (.double (FP.l2d dq)), .second, .val (.double (FP.ddiv (FP.l2d nq) (FP.l2d dq))), .second, .val (.double (FP.dmul (FP.ddiv (FP.l2d nq) (FP.l2d dq)) (FP.l2d dq))), .second, .val (.double (own_f4 (FP.ddiv (FP.l2d nq) (FP.l2d dq)) (FP.l2d dq) (FP.dmul (FP.ddiv (FP.l2d nq) (FP.l2d dq)) (FP.l2d dq)))), .second, .val (.double (FP.dsub (FP.dsub (FP.l2d nq) (FP.dmul (FP.ddiv (FP.l2d nq) (FP.l2d dq)) (FP.l2d dq))) (own_f4 (FP.ddiv (FP.l2d nq) (FP.l2d dq)) (FP.l2d dq) (FP.dmul (FP.ddiv (FP.l2d nq) (FP.l2d dq)) (FP.l2d dq))))), .second]) rfl ?_
    show Steps p.tables e below (T1.setTop (mkF m 44 #[.val (.ref r0), .val (.int (1 : Int32)), .val (.long nq), .second, .val (.long dq), .second, .val (.double (FP.l2d nq)), .second, .val (.double (FP.l2d dq)), .second, .val (.double (FP.ddiv (FP.l2d nq) (FP.l2d dq))), .second, .val (.double (FP.dmul (FP.ddiv (FP.l2d nq) (FP.l2d dq)) (FP.l2d dq))), .second, .val (.double (own_f4 (FP.ddiv (FP.l2d nq) (FP.l2d dq)) (FP.l2d dq) (FP.dmul (FP.ddiv (FP.l2d nq) (FP.l2d dq)) (FP.l2d dq)))), .second, .val (.double (FP.dsub (FP.dsub (FP.l2d nq) (FP.dmul (FP.ddiv (FP.l2d nq) (FP.l2d dq)) (FP.l2d dq))) (own_f4 (FP.ddiv (FP.l2d nq) (FP.l2d dq)) (FP.l2d dq) (FP.dmul (FP.ddiv (FP.l2d nq) (FP.l2d dq)) (FP.l2d dq))))), .second] [])) _
    refine XS.aloadN X1.here hx rfl (hb hby d3_44) rfl rfl ?_
    show Steps p.tables e below (T1.setTop (mkF m 45 #[.val (.ref r0), .val (.int (1 : Int32)), .val (.long nq), .second, .val (.long dq), .second, .val (.double (FP.l2d nq)), .second, .val (.double (FP.l2d dq)), .second, .val (.double (FP.ddiv (FP.l2d nq) (FP.l2d dq))), .second, .val (.double (FP.dmul (FP.ddiv (FP.l2d nq) (FP.l2d dq)) (FP.l2d dq))), .second, .val (.double (own_f4 (FP.ddiv (FP.l2d nq) (FP.l2d dq)) (FP.l2d dq) (FP.dmul (FP.ddiv (FP.l2d nq) (FP.l2d dq)) (FP.l2d dq)))), .second, .val (.double (FP.dsub (FP.dsub (FP.l2d nq) (FP.dmul (FP.ddiv (FP.l2d nq) (FP.l2d dq)) (FP.l2d dq))) (own_f4 (FP.ddiv (FP.l2d nq) (FP.l2d dq)) (FP.l2d dq) (FP.dmul (FP.ddiv (FP.l2d nq) (FP.l2d dq)) (FP.l2d dq))))), .second] [(.ref r0)])) _
    refine XS.iloadN X1.here hx rfl (hb hby d3_45) rfl ?_
    show Steps p.tables e below (T1.setTop (mkF m 46 #[.val (.ref r0), .val (.int (1 : Int32)), .val (.long nq), .second, .val (.long dq), .second, .val (.double (FP.l2d nq)), .second, .val (.double (FP.l2d dq)), .second, .val (.double (FP.ddiv (FP.l2d nq) (FP.l2d dq))), .second, .val (.double (FP.dmul (FP.ddiv (FP.l2d nq) (FP.l2d dq)) (FP.l2d dq))), .second, .val (.double (own_f4 (FP.ddiv (FP.l2d nq) (FP.l2d dq)) (FP.l2d dq) (FP.dmul (FP.ddiv (FP.l2d nq) (FP.l2d dq)) (FP.l2d dq)))), .second, .val (.double (FP.dsub (FP.dsub (FP.l2d nq) (FP.dmul (FP.ddiv (FP.l2d nq) (FP.l2d dq)) (FP.l2d dq))) (own_f4 (FP.ddiv (FP.l2d nq) (FP.l2d dq)) (FP.l2d dq) (FP.dmul (FP.ddiv (FP.l2d nq) (FP.l2d dq)) (FP.l2d dq))))), .second] [(.int (1 : Int32)), (.ref r0)])) _
    refine XS.dload X1.here hx rfl (hb hby d3_46) rfl ?_
    show Steps p.tables e below (T1.setTop (mkF m 48 #[.val (.ref r0), .val (.int (1 : Int32)), .val (.long nq), .second, .val (.long dq), .second, .val (.double (FP.l2d nq)), .second, .val (.double (FP.l2d dq)), .second, .val (.double (FP.ddiv (FP.l2d nq) (FP.l2d dq))), .second, .val (.double (FP.dmul (FP.ddiv (FP.l2d nq) (FP.l2d dq)) (FP.l2d dq))), .second, .val (.double (own_f4 (FP.ddiv (FP.l2d nq) (FP.l2d dq)) (FP.l2d dq) (FP.dmul (FP.ddiv (FP.l2d nq) (FP.l2d dq)) (FP.l2d dq)))), .second, .val (.double (FP.dsub (FP.dsub (FP.l2d nq) (FP.dmul (FP.ddiv (FP.l2d nq) (FP.l2d dq)) (FP.l2d dq))) (own_f4 (FP.ddiv (FP.l2d nq) (FP.l2d dq)) (FP.l2d dq) (FP.dmul (FP.ddiv (FP.l2d nq) (FP.l2d dq)) (FP.l2d dq))))), .second] [(.double (FP.ddiv (FP.l2d nq) (FP.l2d dq))), (.int (1 : Int32)), (.ref r0)])) _
    refine XS.dload X1.here hx rfl (hb hby d3_48) rfl ?_
    show Steps p.tables e below (T1.setTop (mkF m 50 #[.val (.ref r0), .val (.int (1 : Int32)), .val (.long nq), .second, .val (.long dq), .second, .val (.double (FP.l2d nq)), .second, .val (.double (FP.l2d dq)), .second, .val (.double (FP.ddiv (FP.l2d nq) (FP.l2d dq))), .second, .val (.double (FP.dmul (FP.ddiv (FP.l2d nq) (FP.l2d dq)) (FP.l2d dq))), .second, .val (.double (own_f4 (FP.ddiv (FP.l2d nq) (FP.l2d dq)) (FP.l2d dq) (FP.dmul (FP.ddiv (FP.l2d nq) (FP.l2d dq)) (FP.l2d dq)))), .second, .val (.double (FP.dsub (FP.dsub (FP.l2d nq) (FP.dmul (FP.ddiv (FP.l2d nq) (FP.l2d dq)) (FP.l2d dq))) (own_f4 (FP.ddiv (FP.l2d nq) (FP.l2d dq)) (FP.l2d dq) (FP.dmul (FP.ddiv (FP.l2d nq) (FP.l2d dq)) (FP.l2d dq))))), .second] [(.double (FP.dsub (FP.dsub (FP.l2d nq) (FP.dmul (FP.ddiv (FP.l2d nq) (FP.l2d dq)) (FP.l2d dq))) (own_f4 (FP.ddiv (FP.l2d nq) (FP.l2d dq)) (FP.l2d dq) (FP.dmul (FP.ddiv (FP.l2d nq) (FP.l2d dq)) (FP.l2d dq))))), (.double (FP.ddiv (FP.l2d nq) (FP.l2d dq))), (.int (1 : Int32)), (.ref r0)])) _
    refine XS.dload X1.here hx rfl (hb hby d3_50) rfl ?_
    show Steps p.tables e below (T1.setTop (mkF m 52 #[.val (.ref r0), .val (.int (1 : Int32)), .val (.long nq), .second, .val (.long dq), .second, .val (.double (FP.l2d nq)), .second, .val (.double (FP.l2d dq)), .second, .val (.double (FP.ddiv (FP.l2d nq) (FP.l2d dq))), .second, .val (.double (FP.dmul (FP.ddiv (FP.l2d nq) (FP.l2d dq)) (FP.l2d dq))), .second, .val (.double (own_f4 (FP.ddiv (FP.l2d nq) (FP.l2d dq)) (FP.l2d dq) (FP.dmul (FP.ddiv (FP.l2d nq) (FP.l2d dq)) (FP.l2d dq)))), .second, .val (.double (FP.dsub (FP.dsub (FP.l2d nq) (FP.dmul (FP.ddiv (FP.l2d nq) (FP.l2d dq)) (FP.l2d dq))) (own_f4 (FP.ddiv (FP.l2d nq) (FP.l2d dq)) (FP.l2d dq) (FP.dmul (FP.ddiv (FP.l2d nq) (FP.l2d dq)) (FP.l2d dq))))), .second] [(.double (FP.l2d dq)), (.double (FP.dsub (FP.dsub (FP.l2d nq) (FP.dmul (FP.ddiv (FP.l2d nq) (FP.l2d dq)) (FP.l2d dq))) (own_f4 (FP.ddiv (FP.l2d nq) (FP.l2d dq)) (FP.l2d dq) (FP.dmul (FP.ddiv (FP.l2d nq) (FP.l2d dq)) (FP.l2d dq))))), (.double (FP.ddiv (FP.l2d nq) (FP.l2d dq))), (.int (1 : Int32)), (.ref r0)])) _
    refine XS.ddivS X1.here hx rfl (hb hby d3_52) rfl hn5 rfl ?_
    show Steps p.tables e below (T1.setTop (mkF m 53 #[.val (.ref r0), .val (.int (1 : Int32)), .val (.long nq), .second, .val (.long dq), .second, .val (.double (FP.l2d nq)), .second, .val (.double (FP.l2d dq)), .second, .val (.double (FP.ddiv (FP.l2d nq) (FP.l2d dq))), .second, .val (.double (FP.dmul (FP.ddiv (FP.l2d nq) (FP.l2d dq)) (FP.l2d dq))), .second, .val (.double (own_f4 (FP.ddiv (FP.l2d nq) (FP.l2d dq)) (FP.l2d dq) (FP.dmul (FP.ddiv (FP.l2d nq) (FP.l2d dq)) (FP.l2d dq)))), .second, .val (.double (FP.dsub (FP.dsub (FP.l2d nq) (FP.dmul (FP.ddiv (FP.l2d nq) (FP.l2d dq)) (FP.l2d dq))) (own_f4 (FP.ddiv (FP.l2d nq) (FP.l2d dq)) (FP.l2d dq) (FP.dmul (FP.ddiv (FP.l2d nq) (FP.l2d dq)) (FP.l2d dq))))), .second] [(.double (FP.ddiv (FP.dsub (FP.dsub (FP.l2d nq) (FP.dmul (FP.ddiv (FP.l2d nq) (FP.l2d dq)) (FP.l2d dq))) (own_f4 (FP.ddiv (FP.l2d nq) (FP.l2d dq)) (FP.l2d dq) (FP.dmul (FP.ddiv (FP.l2d nq) (FP.l2d dq)) (FP.l2d dq)))) (FP.l2d dq))), (.double (FP.ddiv (FP.l2d nq) (FP.l2d dq))), (.int (1 : Int32)), (.ref r0)])) _
    refine st2.trans ?_
    show Steps p.tables e below (T2.setTop (mkF m 56 #[.val (.ref r0), .val (.int (1 : Int32)), .val (.long nq), .second, .val (.long dq), .second, .val (.double (FP.l2d nq)), .second, .val (.double (FP.l2d dq)), .second, .val (.double (FP.ddiv (FP.l2d nq) (FP.l2d dq))), .second, .val (.double (FP.dmul (FP.ddiv (FP.l2d nq) (FP.l2d dq)) (FP.l2d dq))), .second, .val (.double (own_f4 (FP.ddiv (FP.l2d nq) (FP.l2d dq)) (FP.l2d dq) (FP.dmul (FP.ddiv (FP.l2d nq) (FP.l2d dq)) (FP.l2d dq)))), .second, .val (.double (FP.dsub (FP.dsub (FP.l2d nq) (FP.dmul (FP.ddiv (FP.l2d nq) (FP.l2d dq)) (FP.l2d dq))) (own_f4 (FP.ddiv (FP.l2d nq) (FP.l2d dq)) (FP.l2d dq) (FP.dmul (FP.ddiv (FP.l2d nq) (FP.l2d dq)) (FP.l2d dq))))), .second] [])) _
    exact X2.returnOut hx Bd.returns (hb hby d3_56) hr
  · show Q_setQuotient_1 Z r0 nq dq hA lA kH kL ua ub va vb h0 n0 _ T2.heap _
    exact ⟨rfl, N2, kp7, Vh2, Vl2⟩
theorem d7_0 : decode prog_43_method_10_code 0 = .ok (.aload_n 0, 1) := by decide +kernel
theorem d7_1 : decode prog_43_method_10_code 1 = .ok (.getfield 7, 3) := by decide +kernel
theorem d7_4 : decode prog_43_method_10_code 4 = .ok (.iload_n 1, 1) := by decide +kernel
theorem d7_5 : decode prog_43_method_10_code 5 = .ok (.daload, 1) := by decide +kernel
theorem d7_6 : decode prog_43_method_10_code 6 = .ok (.dreturn, 1) := by decide +kernel
def Q_rounded_0 (Z : State) (r0 : Addr) (hA lA : Addr) (kH kL : ClassId) (ua ub va vb : UInt64) (h0 : Heap) (n0 : Nat) (v : Option Value) (h : Heap) (L : List Loc) : Prop := v = some (.double ua) ∧ Fr n0 L ∧ h = h0
theorem ef_rm_rounded_0 (m : MethodId) (x0 : Addr) (x1 : Int32) : entryFrame m #[(.ref x0), (.int x1)] 2 = mkF m 0 #[.val (.ref x0), .val (.int x1)] [] := by first | (simp [entryFrame, mkF, argsToLocals, Value.category]; done) | rfl
set_option maxRecDepth 65536 in
set_option maxHeartbeats 40000000 in
theorem rm_rounded_0 (l : Launch) (Z : State) (a0 : Array Value) (hw : ∀ d ∈ tables_1, d.before a0 Z = true) (ws : List Jvm.Cond) (r0 : Addr) (hA lA : Addr) (kH kL : ClassId) (ua ub va vb : UInt64) (h0 : Heap) (n0 : Nat) (Z0 : n0 ≤ h0.size) (E0 : Exa Z h0 r0 "com/example/degree/degree/retrieval/DoubleDoubles") (Fh : Fld Z h0 r0 "com/example/degree/degree/retrieval/DoubleDoubles" "high" "[D" (.ref hA)) (Fl : Fld Z h0 r0 "com/example/degree/degree/retrieval/DoubleDoubles" "low" "[D" (.ref lA)) (Ah : Arv Z h0 hA kH .double (2 : Int32) [(.double ua), (.double ub)] (.double 0)) (Al : Arv Z h0 lA kL .double (2 : Int32) [(.double va), (.double vb)] (.double 0)) (g_hA : n0 ≤ hA) (g_lA : n0 ≤ lA) (hne : hA ≠ lA) (hz1 : r0 ≠ hA) (hz2 : r0 ≠ lA) :
    MetFree l (⟨"com/example/degree/degree/retrieval/DoubleDoubles", "rounded", "(I)D"⟩ : MethodName) (head1 (Jvm.Cond.code (⟨"com/example/degree/degree/retrieval/DoubleDoubles", "rounded", "(I)D"⟩ : MethodName) prog_43_method_10_code 2 (some .double) :: ws) ({ frames := 0, cells := 0, slots := 0, locals := 0 } : Room)) (fun a U => a = #[(.ref r0), (.int (0 : Int32))] ∧ Z.Warmed39 U.vm ∧ U.heap = h0) (fun _ _ _ _ _ => True) (fun _ U o U' => ∃ v L, o = .returned v ∧ Q_rounded_0 Z r0 hA lA kH kL ua ub va vb h0 n0 v U'.heap L ∧ FrameEnd U o U' L ({ frames := 0, cells := 0, slots := 0, locals := 0 } : Room).cells ({ frames := 0, cells := 0, slots := 0, locals := 0 } : Room).slots) := by
  refine MetFree.of_bodySF (plainFor_of_name pnc_com_example_degree_degree_retrieval_DoubleDoubles) hisR ?_
  intro p e s m args below meth c s₁ Bd hml0 hP hK
  obtain ⟨rfl, hZ, hh⟩ := hP
  have hx := Bd.exec
  have hby := Bd.bytes
  have hml : c.maxLocals = 2 := hml0
  have hown : s.vm.findClass "com/example/degree/degree/retrieval/DoubleDoubles" = some m.cls := findClass_of_methodNamed Bd.named
  have hnm := (name_of_methodNamed Bd.named Bd.method).1
  have X0 : Stand p l e ({ frames := 0, cells := 0, slots := 0, locals := 0 } : Room) s m #[(.ref r0), (.int (0 : Int32))] below meth c s₁ [] 0 0 := Stand.of_body Bd
  have e0 : s₁.heap = h0 := by rw [← hh, Bd.state]; rfl
  have N0 := Fr.nil n0
  have kp0 : Keep h0 h0 [hA, lA] := Keep.refl _ _
  have G0 : ∀ t, Steps p.tables e below (s₁.setTop (mkF m 0 #[.val (.ref r0), .val (.int (0 : Int32))] [])) t → Steps p.tables e below (s₁.setTop (entryFrame m #[(.ref r0), (.int (0 : Int32))] 2)) t := fun t k => castTop (ef_rm_rounded_0 m r0 (0 : Int32)) k
  obtain ⟨T1, X1, e1, st1⟩ := getF X0 hx hZ hown (host := "") (Or.inl (hq hw 13 rfl)) Via.refl e0 Fh (g := (mkF m 1 #[.val (.ref r0), .val (.int (0 : Int32))] [(.ref r0)])) rfl rfl (hb hby d7_1)
  obtain ⟨cl2, Ar2, q2, S2, M2, H2, G2⟩ := id Ah
  have hin2 : ¬ ((0 : Int32) < 0 ∨ cl2.slots.size ≤ ((0 : Int32)).toNatClampNeg) := inb_of S2 ⟨by decide, by decide⟩
  have hat2 : cl2.slots[((0 : Int32)).toNatClampNeg]? = some (.double ua) := H2.at hin2 rfl
  obtain ⟨fs, hr, hrun, hended, hW, hsame⟩ := X1.leave (v := some (.double ua)) (fun h => by rw [Bd.returns] at h; cases h)
  refine ⟨_, _, G0 _ ?_, hrun, hended, _, _, rfl, ?_, ⟨_, rfl⟩, hW, hsame.mono (by decide) (by decide)⟩
  · skip
    show Steps p.tables e below (s₁.setTop (mkF m 0 #[.val (.ref r0), .val (.int (0 : Int32))] [])) _
    refine XS.aloadN X0.here hx rfl (hb hby d7_0) rfl rfl ?_
    show Steps p.tables e below (s₁.setTop (mkF m 1 #[.val (.ref r0), .val (.int (0 : Int32))] [(.ref r0)])) _
    refine st1 _ ?_
    show Steps p.tables e below (T1.setTop (mkF m 4 #[.val (.ref r0), .val (.int (0 : Int32))] [(.ref hA)])) _
    refine XS.iloadN X1.here hx rfl (hb hby d7_4) rfl ?_
    show Steps p.tables e below (T1.setTop (mkF m 5 #[.val (.ref r0), .val (.int (0 : Int32))] [(.int (0 : Int32)), (.ref hA)])) _
    refine X1.daload hx (j := (0 : Int32)) (v := (.double ua)) (by rw [e1]; exact Ar2.1) (State.isArrayOf_alike hZ.alike Ar2.2.1) Ar2.2.2 hin2 hat2 (g := (mkF m 5 #[.val (.ref r0), .val (.int (0 : Int32))] [(.int (0 : Int32)), (.ref hA)])) rfl rfl (hb hby d7_5) _ ?_
    show Steps p.tables e below (T1.setTop (mkF m 6 #[.val (.ref r0), .val (.int (0 : Int32))] [(.double ua)])) _
    exact retOut X1 hx Bd.returns rfl (Or.inr (Or.inr (Or.inl ⟨rfl, rfl, _, rfl⟩))) (hb hby d7_6) hr
  · show Q_rounded_0 Z r0 hA lA kH kL ua ub va vb h0 n0 _ T1.heap _
    rw [e1]
    exact ⟨rfl, N0, rfl⟩
def Q_rounded_1 (Z : State) (r0 : Addr) (hA lA : Addr) (kH kL : ClassId) (ua ub va vb : UInt64) (h0 : Heap) (n0 : Nat) (v : Option Value) (h : Heap) (L : List Loc) : Prop := v = some (.double ub) ∧ Fr n0 L ∧ h = h0
theorem ef_rm_rounded_1 (m : MethodId) (x0 : Addr) (x1 : Int32) : entryFrame m #[(.ref x0), (.int x1)] 2 = mkF m 0 #[.val (.ref x0), .val (.int x1)] [] := by first | (simp [entryFrame, mkF, argsToLocals, Value.category]; done) | rfl
set_option maxRecDepth 65536 in
set_option maxHeartbeats 40000000 in
theorem rm_rounded_1 (l : Launch) (Z : State) (a0 : Array Value) (hw : ∀ d ∈ tables_1, d.before a0 Z = true) (ws : List Jvm.Cond) (r0 : Addr) (hA lA : Addr) (kH kL : ClassId) (ua ub va vb : UInt64) (h0 : Heap) (n0 : Nat) (Z0 : n0 ≤ h0.size) (E0 : Exa Z h0 r0 "com/example/degree/degree/retrieval/DoubleDoubles") (Fh : Fld Z h0 r0 "com/example/degree/degree/retrieval/DoubleDoubles" "high" "[D" (.ref hA)) (Fl : Fld Z h0 r0 "com/example/degree/degree/retrieval/DoubleDoubles" "low" "[D" (.ref lA)) (Ah : Arv Z h0 hA kH .double (2 : Int32) [(.double ua), (.double ub)] (.double 0)) (Al : Arv Z h0 lA kL .double (2 : Int32) [(.double va), (.double vb)] (.double 0)) (g_hA : n0 ≤ hA) (g_lA : n0 ≤ lA) (hne : hA ≠ lA) (hz1 : r0 ≠ hA) (hz2 : r0 ≠ lA) :
    MetFree l (⟨"com/example/degree/degree/retrieval/DoubleDoubles", "rounded", "(I)D"⟩ : MethodName) (head1 (Jvm.Cond.code (⟨"com/example/degree/degree/retrieval/DoubleDoubles", "rounded", "(I)D"⟩ : MethodName) prog_43_method_10_code 2 (some .double) :: ws) ({ frames := 0, cells := 0, slots := 0, locals := 0 } : Room)) (fun a U => a = #[(.ref r0), (.int (1 : Int32))] ∧ Z.Warmed39 U.vm ∧ U.heap = h0) (fun _ _ _ _ _ => True) (fun _ U o U' => ∃ v L, o = .returned v ∧ Q_rounded_1 Z r0 hA lA kH kL ua ub va vb h0 n0 v U'.heap L ∧ FrameEnd U o U' L ({ frames := 0, cells := 0, slots := 0, locals := 0 } : Room).cells ({ frames := 0, cells := 0, slots := 0, locals := 0 } : Room).slots) := by
  refine MetFree.of_bodySF (plainFor_of_name pnc_com_example_degree_degree_retrieval_DoubleDoubles) hisR ?_
  intro p e s m args below meth c s₁ Bd hml0 hP hK
  obtain ⟨rfl, hZ, hh⟩ := hP
  have hx := Bd.exec
  have hby := Bd.bytes
  have hml : c.maxLocals = 2 := hml0
  have hown : s.vm.findClass "com/example/degree/degree/retrieval/DoubleDoubles" = some m.cls := findClass_of_methodNamed Bd.named
  have hnm := (name_of_methodNamed Bd.named Bd.method).1
  have X0 : Stand p l e ({ frames := 0, cells := 0, slots := 0, locals := 0 } : Room) s m #[(.ref r0), (.int (1 : Int32))] below meth c s₁ [] 0 0 := Stand.of_body Bd
  have e0 : s₁.heap = h0 := by rw [← hh, Bd.state]; rfl
  have N0 := Fr.nil n0
  have kp0 : Keep h0 h0 [hA, lA] := Keep.refl _ _
  have G0 : ∀ t, Steps p.tables e below (s₁.setTop (mkF m 0 #[.val (.ref r0), .val (.int (1 : Int32))] [])) t → Steps p.tables e below (s₁.setTop (entryFrame m #[(.ref r0), (.int (1 : Int32))] 2)) t := fun t k => castTop (ef_rm_rounded_1 m r0 (1 : Int32)) k
  obtain ⟨T1, X1, e1, st1⟩ := getF X0 hx hZ hown (host := "") (Or.inl (hq hw 13 rfl)) Via.refl e0 Fh (g := (mkF m 1 #[.val (.ref r0), .val (.int (1 : Int32))] [(.ref r0)])) rfl rfl (hb hby d7_1)
  obtain ⟨cl2, Ar2, q2, S2, M2, H2, G2⟩ := id Ah
  have hin2 : ¬ ((1 : Int32) < 0 ∨ cl2.slots.size ≤ ((1 : Int32)).toNatClampNeg) := inb_of S2 ⟨by decide, by decide⟩
  have hat2 : cl2.slots[((1 : Int32)).toNatClampNeg]? = some (.double ub) := H2.at hin2 rfl
  obtain ⟨fs, hr, hrun, hended, hW, hsame⟩ := X1.leave (v := some (.double ub)) (fun h => by rw [Bd.returns] at h; cases h)
  refine ⟨_, _, G0 _ ?_, hrun, hended, _, _, rfl, ?_, ⟨_, rfl⟩, hW, hsame.mono (by decide) (by decide)⟩
  · skip
    show Steps p.tables e below (s₁.setTop (mkF m 0 #[.val (.ref r0), .val (.int (1 : Int32))] [])) _
    refine XS.aloadN X0.here hx rfl (hb hby d7_0) rfl rfl ?_
    show Steps p.tables e below (s₁.setTop (mkF m 1 #[.val (.ref r0), .val (.int (1 : Int32))] [(.ref r0)])) _
    refine st1 _ ?_
    show Steps p.tables e below (T1.setTop (mkF m 4 #[.val (.ref r0), .val (.int (1 : Int32))] [(.ref hA)])) _
    refine XS.iloadN X1.here hx rfl (hb hby d7_4) rfl ?_
    show Steps p.tables e below (T1.setTop (mkF m 5 #[.val (.ref r0), .val (.int (1 : Int32))] [(.int (1 : Int32)), (.ref hA)])) _
    refine X1.daload hx (j := (1 : Int32)) (v := (.double ub)) (by rw [e1]; exact Ar2.1) (State.isArrayOf_alike hZ.alike Ar2.2.1) Ar2.2.2 hin2 hat2 (g := (mkF m 5 #[.val (.ref r0), .val (.int (1 : Int32))] [(.int (1 : Int32)), (.ref hA)])) rfl rfl (hb hby d7_5) _ ?_
    show Steps p.tables e below (T1.setTop (mkF m 6 #[.val (.ref r0), .val (.int (1 : Int32))] [(.double ub)])) _
    exact retOut X1 hx Bd.returns rfl (Or.inr (Or.inr (Or.inl ⟨rfl, rfl, _, rfl⟩))) (hb hby d7_6) hr
  · show Q_rounded_1 Z r0 hA lA kH kL ua ub va vb h0 n0 _ T1.heap _
    rw [e1]
    exact ⟨rfl, N0, rfl⟩
theorem d8_0 : decode prog_43_method_3_code 0 = .ok (.aload_n 0, 1) := by decide +kernel
theorem d8_1 : decode prog_43_method_3_code 1 = .ok (.getfield 7, 3) := by decide +kernel
theorem d8_4 : decode prog_43_method_3_code 4 = .ok (.iload_n 1, 1) := by decide +kernel
theorem d8_5 : decode prog_43_method_3_code 5 = .ok (.dload_n 2, 1) := by decide +kernel
theorem d8_6 : decode prog_43_method_3_code 6 = .ok (.dastore, 1) := by decide +kernel
theorem d8_7 : decode prog_43_method_3_code 7 = .ok (.aload_n 0, 1) := by decide +kernel
theorem d8_8 : decode prog_43_method_3_code 8 = .ok (.getfield 13, 3) := by decide +kernel
theorem d8_11 : decode prog_43_method_3_code 11 = .ok (.iload_n 1, 1) := by decide +kernel
theorem d8_12 : decode prog_43_method_3_code 12 = .ok (.dconst 0, 1) := by decide +kernel
theorem d8_13 : decode prog_43_method_3_code 13 = .ok (.dastore, 1) := by decide +kernel
theorem d8_14 : decode prog_43_method_3_code 14 = .ok (.return_, 1) := by decide +kernel
def Q_set_0 (Z : State) (r0 : Addr) (d2 : UInt64) (hA lA : Addr) (kH kL : ClassId) (ua ub va vb : UInt64) (h0 : Heap) (n0 : Nat) (v : Option Value) (h : Heap) (L : List Loc) : Prop := v = none ∧ Fr n0 L ∧ Keep h0 h [hA, lA] ∧ Arv Z h hA kH .double (2 : Int32) [(.double d2), (.double ub)] (.double 0) ∧ Arv Z h lA kL .double (2 : Int32) [(.double FP.dconst0), (.double vb)] (.double 0)
theorem ef_rm_set_0 (m : MethodId) (x0 : Addr) (x1 : Int32) (x2 : UInt64) : entryFrame m #[(.ref x0), (.int x1), (.double x2)] 4 = mkF m 0 #[.val (.ref x0), .val (.int x1), .val (.double x2), .second] [] := by first | (simp [entryFrame, mkF, argsToLocals, Value.category]; done) | rfl
set_option maxRecDepth 65536 in
set_option maxHeartbeats 40000000 in
theorem rm_set_0 (l : Launch) (Z : State) (a0 : Array Value) (hw : ∀ d ∈ tables_1, d.before a0 Z = true) (ws : List Jvm.Cond) (r0 : Addr) (d2 : UInt64) (hA lA : Addr) (kH kL : ClassId) (ua ub va vb : UInt64) (h0 : Heap) (n0 : Nat) (Z0 : n0 ≤ h0.size) (E0 : Exa Z h0 r0 "com/example/degree/degree/retrieval/DoubleDoubles") (Fh : Fld Z h0 r0 "com/example/degree/degree/retrieval/DoubleDoubles" "high" "[D" (.ref hA)) (Fl : Fld Z h0 r0 "com/example/degree/degree/retrieval/DoubleDoubles" "low" "[D" (.ref lA)) (Ah : Arv Z h0 hA kH .double (2 : Int32) [(.double ua), (.double ub)] (.double 0)) (Al : Arv Z h0 lA kL .double (2 : Int32) [(.double va), (.double vb)] (.double 0)) (g_hA : n0 ≤ hA) (g_lA : n0 ≤ lA) (hne : hA ≠ lA) (hz1 : r0 ≠ hA) (hz2 : r0 ≠ lA) :
    MetFree l (⟨"com/example/degree/degree/retrieval/DoubleDoubles", "set", "(ID)V"⟩ : MethodName) (head1 (Jvm.Cond.code (⟨"com/example/degree/degree/retrieval/DoubleDoubles", "set", "(ID)V"⟩ : MethodName) prog_43_method_3_code 4 none :: ws) ({ frames := 0, cells := 0, slots := 0, locals := 0 } : Room)) (fun a U => a = #[(.ref r0), (.int (0 : Int32)), (.double d2)] ∧ Z.Warmed39 U.vm ∧ U.heap = h0) (fun _ _ _ _ _ => True) (fun _ U o U' => ∃ v L, o = .returned v ∧ Q_set_0 Z r0 d2 hA lA kH kL ua ub va vb h0 n0 v U'.heap L ∧ FrameEnd U o U' L ({ frames := 0, cells := 0, slots := 0, locals := 0 } : Room).cells ({ frames := 0, cells := 0, slots := 0, locals := 0 } : Room).slots) := by
  refine MetFree.of_bodySF (plainFor_of_name pnc_com_example_degree_degree_retrieval_DoubleDoubles) hisR ?_
  intro p e s m args below meth c s₁ Bd hml0 hP hK
  obtain ⟨rfl, hZ, hh⟩ := hP
  have hx := Bd.exec
  have hby := Bd.bytes
  have hml : c.maxLocals = 4 := hml0
  have hown : s.vm.findClass "com/example/degree/degree/retrieval/DoubleDoubles" = some m.cls := findClass_of_methodNamed Bd.named
  have hnm := (name_of_methodNamed Bd.named Bd.method).1
  have X0 : Stand p l e ({ frames := 0, cells := 0, slots := 0, locals := 0 } : Room) s m #[(.ref r0), (.int (0 : Int32)), (.double d2)] below meth c s₁ [] 0 0 := Stand.of_body Bd
  have e0 : s₁.heap = h0 := by rw [← hh, Bd.state]; rfl
  have N0 := Fr.nil n0
  have kp0 : Keep h0 h0 [hA, lA] := Keep.refl _ _
  have G0 : ∀ t, Steps p.tables e below (s₁.setTop (mkF m 0 #[.val (.ref r0), .val (.int (0 : Int32)), .val (.double d2), .second] [])) t → Steps p.tables e below (s₁.setTop (entryFrame m #[(.ref r0), (.int (0 : Int32)), (.double d2)] 4)) t := fun t k => castTop (ef_rm_set_0 m r0 (0 : Int32) d2) k
  obtain ⟨T1, X1, e1, st1⟩ := getF X0 hx hZ hown (host := "") (Or.inl (hq hw 13 rfl)) Via.refl e0 Fh (g := (mkF m 1 #[.val (.ref r0), .val (.int (0 : Int32)), .val (.double d2), .second] [(.ref r0)])) rfl rfl (hb hby d8_1)
  obtain ⟨cl2, Ar2, q2, S2, M2, H2, G2⟩ := id Ah
  have hin2 : ¬ ((0 : Int32) < 0 ∨ cl2.slots.size ≤ ((0 : Int32)).toNatClampNeg) := inb_of S2 ⟨by decide, by decide⟩
  obtain ⟨T3, h3, X3, e3, W3, st3⟩ := stD X1 hx hZ e1 Ar2 (j := (0 : Int32)) hin2 (g := (mkF m 6 #[.val (.ref r0), .val (.int (0 : Int32)), .val (.double d2), .second] [(.double d2), (.int (0 : Int32)), (.ref hA)])) rfl rfl (hb hby d8_6)
  have fa4 := E0.wr W3
  have fa5 := Fh.other W3 (Or.inl hz1)
  have fa6 := Fl.other W3 (Or.inl hz1)
  have fa7 := Al.other W3 (Ne.symm hne)
  have z8 : n0 ≤ h3.size := Nat.le_trans Z0 (Nat.le_of_eq W3.size.symm)
  have kp9 : Keep h0 h3 [hA, lA] := kp0.wr W3 (Or.inl (List.mem_of_getElem? (i := 0) rfl))
  have fa10 : Arv Z h3 hA kH .double (2 : Int32) [(.double d2), (.double ub)] (.double 0) := Arv.set Ar2 q2 S2 M2 H2 G2 rfl W3 0 rfl (Nat.le_of_ble_eq_true rfl)
  have N3 := Fr.snoc X3 N0 g_hA
  obtain ⟨T11, X11, e11, st11⟩ := getF X3 hx hZ hown (host := "") (Or.inl (hq hw 15 rfl)) Via.refl e3 fa6 (g := (mkF m 8 #[.val (.ref r0), .val (.int (0 : Int32)), .val (.double d2), .second] [(.ref r0)])) rfl rfl (hb hby d8_8)
  obtain ⟨cl12, Ar12, q12, S12, M12, H12, G12⟩ := id fa7
  have hin12 : ¬ ((0 : Int32) < 0 ∨ cl12.slots.size ≤ ((0 : Int32)).toNatClampNeg) := inb_of S12 ⟨by decide, by decide⟩
  obtain ⟨T13, h13, X13, e13, W13, st13⟩ := stD X11 hx hZ e11 Ar12 (j := (0 : Int32)) hin12 (g := (mkF m 13 #[.val (.ref r0), .val (.int (0 : Int32)), .val (.double d2), .second] [(.double FP.dconst0), (.int (0 : Int32)), (.ref lA)])) rfl rfl (hb hby d8_13)
  have fa14 := fa4.wr W13
  have fa15 := fa5.other W13 (Or.inl hz2)
  have fa16 := fa6.other W13 (Or.inl hz2)
  have fa17 := fa10.other W13 hne
  have z18 : n0 ≤ h13.size := Nat.le_trans z8 (Nat.le_of_eq W13.size.symm)
  have kp19 : Keep h0 h13 [hA, lA] := kp9.wr W13 (Or.inl (List.mem_of_getElem? (i := 1) rfl))
  have fa20 : Arv Z h13 lA kL .double (2 : Int32) [(.double FP.dconst0), (.double vb)] (.double 0) := Arv.set Ar12 q12 S12 M12 H12 G12 rfl W13 0 rfl (Nat.le_of_ble_eq_true rfl)
  have N13 := Fr.snoc X13 N3 g_lA
  obtain ⟨fs, hr, hrun, hended, hW, hsame⟩ := X13.leave (v := none) (fun _ => rfl)
  refine ⟨_, _, G0 _ ?_, hrun, hended, _, _, rfl, ?_, ⟨_, rfl⟩, hW, hsame.mono (by decide) (by decide)⟩
  · skip
    show Steps p.tables e below (s₁.setTop (mkF m 0 #[.val (.ref r0), .val (.int (0 : Int32)), .val (.double d2), .second] [])) _
    refine XS.aloadN X0.here hx rfl (hb hby d8_0) rfl rfl ?_
    show Steps p.tables e below (s₁.setTop (mkF m 1 #[.val (.ref r0), .val (.int (0 : Int32)), .val (.double d2), .second] [(.ref r0)])) _
    refine st1 _ ?_
    show Steps p.tables e below (T1.setTop (mkF m 4 #[.val (.ref r0), .val (.int (0 : Int32)), .val (.double d2), .second] [(.ref hA)])) _
    refine XS.iloadN X1.here hx rfl (hb hby d8_4) rfl ?_
    show Steps p.tables e below (T1.setTop (mkF m 5 #[.val (.ref r0), .val (.int (0 : Int32)), .val (.double d2), .second] [(.int (0 : Int32)), (.ref hA)])) _
    refine XS.dloadN X1.here hx rfl (hb hby d8_5) rfl ?_
    show Steps p.tables e below (T1.setTop (mkF m 6 #[.val (.ref r0), .val (.int (0 : Int32)), .val (.double d2), .second] [(.double d2), (.int (0 : Int32)), (.ref hA)])) _
    refine st3 _ ?_
    show Steps p.tables e below (T3.setTop (mkF m 7 #[.val (.ref r0), .val (.int (0 : Int32)), .val (.double d2), .second] [])) _
    refine XS.aloadN X3.here hx rfl (hb hby d8_7) rfl rfl ?_
    show Steps p.tables e below (T3.setTop (mkF m 8 #[.val (.ref r0), .val (.int (0 : Int32)), .val (.double d2), .second] [(.ref r0)])) _
    refine st11 _ ?_
    show Steps p.tables e below (T11.setTop (mkF m 11 #[.val (.ref r0), .val (.int (0 : Int32)), .val (.double d2), .second] [(.ref lA)])) _
    refine XS.iloadN X11.here hx rfl (hb hby d8_11) rfl ?_
    show Steps p.tables e below (T11.setTop (mkF m 12 #[.val (.ref r0), .val (.int (0 : Int32)), .val (.double d2), .second] [(.int (0 : Int32)), (.ref lA)])) _
    refine XS.dconst0 X11.here hx rfl (hb hby d8_12) rfl ?_
    show Steps p.tables e below (T11.setTop (mkF m 13 #[.val (.ref r0), .val (.int (0 : Int32)), .val (.double d2), .second] [(.double FP.dconst0), (.int (0 : Int32)), (.ref lA)])) _
    refine st13 _ ?_
    show Steps p.tables e below (T13.setTop (mkF m 14 #[.val (.ref r0), .val (.int (0 : Int32)), .val (.double d2), .second] [])) _
    exact X13.returnOut hx Bd.returns (hb hby d8_14) hr
  · show Q_set_0 Z r0 d2 hA lA kH kL ua ub va vb h0 n0 _ T13.heap _
    rw [e13]
    exact ⟨rfl, N13, kp19, fa17, fa20⟩
def Q_set_1 (Z : State) (r0 : Addr) (d2 : UInt64) (hA lA : Addr) (kH kL : ClassId) (ua ub va vb : UInt64) (h0 : Heap) (n0 : Nat) (v : Option Value) (h : Heap) (L : List Loc) : Prop := v = none ∧ Fr n0 L ∧ Keep h0 h [hA, lA] ∧ Arv Z h hA kH .double (2 : Int32) [(.double ua), (.double d2)] (.double 0) ∧ Arv Z h lA kL .double (2 : Int32) [(.double va), (.double FP.dconst0)] (.double 0)
theorem ef_rm_set_1 (m : MethodId) (x0 : Addr) (x1 : Int32) (x2 : UInt64) : entryFrame m #[(.ref x0), (.int x1), (.double x2)] 4 = mkF m 0 #[.val (.ref x0), .val (.int x1), .val (.double x2), .second] [] := by first | (simp [entryFrame, mkF, argsToLocals, Value.category]; done) | rfl
set_option maxRecDepth 65536 in
set_option maxHeartbeats 40000000 in
theorem rm_set_1 (l : Launch) (Z : State) (a0 : Array Value) (hw : ∀ d ∈ tables_1, d.before a0 Z = true) (ws : List Jvm.Cond) (r0 : Addr) (d2 : UInt64) (hA lA : Addr) (kH kL : ClassId) (ua ub va vb : UInt64) (h0 : Heap) (n0 : Nat) (Z0 : n0 ≤ h0.size) (E0 : Exa Z h0 r0 "com/example/degree/degree/retrieval/DoubleDoubles") (Fh : Fld Z h0 r0 "com/example/degree/degree/retrieval/DoubleDoubles" "high" "[D" (.ref hA)) (Fl : Fld Z h0 r0 "com/example/degree/degree/retrieval/DoubleDoubles" "low" "[D" (.ref lA)) (Ah : Arv Z h0 hA kH .double (2 : Int32) [(.double ua), (.double ub)] (.double 0)) (Al : Arv Z h0 lA kL .double (2 : Int32) [(.double va), (.double vb)] (.double 0)) (g_hA : n0 ≤ hA) (g_lA : n0 ≤ lA) (hne : hA ≠ lA) (hz1 : r0 ≠ hA) (hz2 : r0 ≠ lA) :
    MetFree l (⟨"com/example/degree/degree/retrieval/DoubleDoubles", "set", "(ID)V"⟩ : MethodName) (head1 (Jvm.Cond.code (⟨"com/example/degree/degree/retrieval/DoubleDoubles", "set", "(ID)V"⟩ : MethodName) prog_43_method_3_code 4 none :: ws) ({ frames := 0, cells := 0, slots := 0, locals := 0 } : Room)) (fun a U => a = #[(.ref r0), (.int (1 : Int32)), (.double d2)] ∧ Z.Warmed39 U.vm ∧ U.heap = h0) (fun _ _ _ _ _ => True) (fun _ U o U' => ∃ v L, o = .returned v ∧ Q_set_1 Z r0 d2 hA lA kH kL ua ub va vb h0 n0 v U'.heap L ∧ FrameEnd U o U' L ({ frames := 0, cells := 0, slots := 0, locals := 0 } : Room).cells ({ frames := 0, cells := 0, slots := 0, locals := 0 } : Room).slots) := by
  refine MetFree.of_bodySF (plainFor_of_name pnc_com_example_degree_degree_retrieval_DoubleDoubles) hisR ?_
  intro p e s m args below meth c s₁ Bd hml0 hP hK
  obtain ⟨rfl, hZ, hh⟩ := hP
  have hx := Bd.exec
  have hby := Bd.bytes
  have hml : c.maxLocals = 4 := hml0
  have hown : s.vm.findClass "com/example/degree/degree/retrieval/DoubleDoubles" = some m.cls := findClass_of_methodNamed Bd.named
  have hnm := (name_of_methodNamed Bd.named Bd.method).1
  have X0 : Stand p l e ({ frames := 0, cells := 0, slots := 0, locals := 0 } : Room) s m #[(.ref r0), (.int (1 : Int32)), (.double d2)] below meth c s₁ [] 0 0 := Stand.of_body Bd
  have e0 : s₁.heap = h0 := by rw [← hh, Bd.state]; rfl
  have N0 := Fr.nil n0
  have kp0 : Keep h0 h0 [hA, lA] := Keep.refl _ _
  have G0 : ∀ t, Steps p.tables e below (s₁.setTop (mkF m 0 #[.val (.ref r0), .val (.int (1 : Int32)), .val (.double d2), .second] [])) t → Steps p.tables e below (s₁.setTop (entryFrame m #[(.ref r0), (.int (1 : Int32)), (.double d2)] 4)) t := fun t k => castTop (ef_rm_set_1 m r0 (1 : Int32) d2) k
  obtain ⟨T1, X1, e1, st1⟩ := getF X0 hx hZ hown (host := "") (Or.inl (hq hw 13 rfl)) Via.refl e0 Fh (g := (mkF m 1 #[.val (.ref r0), .val (.int (1 : Int32)), .val (.double d2), .second] [(.ref r0)])) rfl rfl (hb hby d8_1)
  obtain ⟨cl2, Ar2, q2, S2, M2, H2, G2⟩ := id Ah
  have hin2 : ¬ ((1 : Int32) < 0 ∨ cl2.slots.size ≤ ((1 : Int32)).toNatClampNeg) := inb_of S2 ⟨by decide, by decide⟩
  obtain ⟨T3, h3, X3, e3, W3, st3⟩ := stD X1 hx hZ e1 Ar2 (j := (1 : Int32)) hin2 (g := (mkF m 6 #[.val (.ref r0), .val (.int (1 : Int32)), .val (.double d2), .second] [(.double d2), (.int (1 : Int32)), (.ref hA)])) rfl rfl (hb hby d8_6)
  have fa4 := E0.wr W3
  have fa5 := Fh.other W3 (Or.inl hz1)
  have fa6 := Fl.other W3 (Or.inl hz1)
  have fa7 := Al.other W3 (Ne.symm hne)
  have z8 : n0 ≤ h3.size := Nat.le_trans Z0 (Nat.le_of_eq W3.size.symm)
  have kp9 : Keep h0 h3 [hA, lA] := kp0.wr W3 (Or.inl (List.mem_of_getElem? (i := 0) rfl))
  have fa10 : Arv Z h3 hA kH .double (2 : Int32) [(.double ua), (.double d2)] (.double 0) := Arv.set Ar2 q2 S2 M2 H2 G2 rfl W3 1 rfl (Nat.le_of_ble_eq_true rfl)
  have N3 := Fr.snoc X3 N0 g_hA
  obtain ⟨T11, X11, e11, st11⟩ := getF X3 hx hZ hown (host := "") (Or.inl (hq hw 15 rfl)) Via.refl e3 fa6 (g := (mkF m 8 #[.val (.ref r0), .val (.int (1 : Int32)), .val (.double d2), .second] [(.ref r0)])) rfl rfl (hb hby d8_8)
  obtain ⟨cl12, Ar12, q12, S12, M12, H12, G12⟩ := id fa7
  have hin12 : ¬ ((1 : Int32) < 0 ∨ cl12.slots.size ≤ ((1 : Int32)).toNatClampNeg) := inb_of S12 ⟨by decide, by decide⟩
  obtain ⟨T13, h13, X13, e13, W13, st13⟩ := stD X11 hx hZ e11 Ar12 (j := (1 : Int32)) hin12 (g := (mkF m 13 #[.val (.ref r0), .val (.int (1 : Int32)), .val (.double d2), .second] [(.double FP.dconst0), (.int (1 : Int32)), (.ref lA)])) rfl rfl (hb hby d8_13)
  have fa14 := fa4.wr W13
  have fa15 := fa5.other W13 (Or.inl hz2)
  have fa16 := fa6.other W13 (Or.inl hz2)
  have fa17 := fa10.other W13 hne
  have z18 : n0 ≤ h13.size := Nat.le_trans z8 (Nat.le_of_eq W13.size.symm)
  have kp19 : Keep h0 h13 [hA, lA] := kp9.wr W13 (Or.inl (List.mem_of_getElem? (i := 1) rfl))
  have fa20 : Arv Z h13 lA kL .double (2 : Int32) [(.double va), (.double FP.dconst0)] (.double 0) := Arv.set Ar12 q12 S12 M12 H12 G12 rfl W13 1 rfl (Nat.le_of_ble_eq_true rfl)
  have N13 := Fr.snoc X13 N3 g_lA
  obtain ⟨fs, hr, hrun, hended, hW, hsame⟩ := X13.leave (v := none) (fun _ => rfl)
  refine ⟨_, _, G0 _ ?_, hrun, hended, _, _, rfl, ?_, ⟨_, rfl⟩, hW, hsame.mono (by decide) (by decide)⟩
  · skip
    show Steps p.tables e below (s₁.setTop (mkF m 0 #[.val (.ref r0), .val (.int (1 : Int32)), .val (.double d2), .second] [])) _
    refine XS.aloadN X0.here hx rfl (hb hby d8_0) rfl rfl ?_
    show Steps p.tables e below (s₁.setTop (mkF m 1 #[.val (.ref r0), .val (.int (1 : Int32)), .val (.double d2), .second] [(.ref r0)])) _
    refine st1 _ ?_
    show Steps p.tables e below (T1.setTop (mkF m 4 #[.val (.ref r0), .val (.int (1 : Int32)), .val (.double d2), .second] [(.ref hA)])) _
    refine XS.iloadN X1.here hx rfl (hb hby d8_4) rfl ?_
    show Steps p.tables e below (T1.setTop (mkF m 5 #[.val (.ref r0), .val (.int (1 : Int32)), .val (.double d2), .second] [(.int (1 : Int32)), (.ref hA)])) _
    refine XS.dloadN X1.here hx rfl (hb hby d8_5) rfl ?_
    show Steps p.tables e below (T1.setTop (mkF m 6 #[.val (.ref r0), .val (.int (1 : Int32)), .val (.double d2), .second] [(.double d2), (.int (1 : Int32)), (.ref hA)])) _
    refine st3 _ ?_
    show Steps p.tables e below (T3.setTop (mkF m 7 #[.val (.ref r0), .val (.int (1 : Int32)), .val (.double d2), .second] [])) _
    refine XS.aloadN X3.here hx rfl (hb hby d8_7) rfl rfl ?_
    show Steps p.tables e below (T3.setTop (mkF m 8 #[.val (.ref r0), .val (.int (1 : Int32)), .val (.double d2), .second] [(.ref r0)])) _
    refine st11 _ ?_
    show Steps p.tables e below (T11.setTop (mkF m 11 #[.val (.ref r0), .val (.int (1 : Int32)), .val (.double d2), .second] [(.ref lA)])) _
    refine XS.iloadN X11.here hx rfl (hb hby d8_11) rfl ?_
    show Steps p.tables e below (T11.setTop (mkF m 12 #[.val (.ref r0), .val (.int (1 : Int32)), .val (.double d2), .second] [(.int (1 : Int32)), (.ref lA)])) _
    refine XS.dconst0 X11.here hx rfl (hb hby d8_12) rfl ?_
    show Steps p.tables e below (T11.setTop (mkF m 13 #[.val (.ref r0), .val (.int (1 : Int32)), .val (.double d2), .second] [(.double FP.dconst0), (.int (1 : Int32)), (.ref lA)])) _
    refine st13 _ ?_
    show Steps p.tables e below (T13.setTop (mkF m 14 #[.val (.ref r0), .val (.int (1 : Int32)), .val (.double d2), .second] [])) _
    exact X13.returnOut hx Bd.returns (hb hby d8_14) hr
  · show Q_set_1 Z r0 d2 hA lA kH kL ua ub va vb h0 n0 _ T13.heap _
    rw [e13]
    exact ⟨rfl, N13, kp19, fa17, fa20⟩
theorem d10_0 : decode jdk_65_method_113_code 0 = .ok (.iconst 0, 1) := by decide +kernel
theorem d10_1 : decode jdk_65_method_113_code 1 = .ok (.istore_n 3, 1) := by decide +kernel
theorem d10_2 : decode jdk_65_method_113_code 2 = .ok (.aload_n 0, 1) := by decide +kernel
theorem d10_3 : decode jdk_65_method_113_code 3 = .ok (.arraylength, 1) := by decide +kernel
theorem d10_4 : decode jdk_65_method_113_code 4 = .ok (.istore 4, 2) := by decide +kernel
theorem d10_6 : decode jdk_65_method_113_code 6 = .ok (.iload_n 3, 1) := by decide +kernel
theorem d10_7 : decode jdk_65_method_113_code 7 = .ok (.iload 4, 2) := by decide +kernel
theorem d10_9 : decode jdk_65_method_113_code 9 = .ok (.if_icmp .ge 13, 3) := by decide +kernel
theorem d10_12 : decode jdk_65_method_113_code 12 = .ok (.aload_n 0, 1) := by decide +kernel
theorem d10_13 : decode jdk_65_method_113_code 13 = .ok (.iload_n 3, 1) := by decide +kernel
theorem d10_14 : decode jdk_65_method_113_code 14 = .ok (.dload_n 1, 1) := by decide +kernel
theorem d10_15 : decode jdk_65_method_113_code 15 = .ok (.dastore, 1) := by decide +kernel
theorem d10_16 : decode jdk_65_method_113_code 16 = .ok (.iinc 3 1, 3) := by decide +kernel
theorem d10_19 : decode jdk_65_method_113_code 19 = .ok (.goto (-13), 3) := by decide +kernel
theorem d10_22 : decode jdk_65_method_113_code 22 = .ok (.return_, 1) := by decide +kernel
def Q10 (Z : State) (r0 : Addr) (d1 : UInt64) (kH : ClassId) (ua ub : UInt64) (h0 : Heap) (n0 : Nat) (v : Option Value) (h : Heap) (L : List Loc) : Prop := v = none ∧ Fr n0 L ∧ Keep h0 h [r0] ∧ Arv Z h r0 kH .double (2 : Int32) [(.double d1), (.double d1)] (.double 0)
theorem ef_rm10 (m : MethodId) (x0 : Addr) (x1 : UInt64) : entryFrame m #[(.ref x0), (.double x1)] 5 = mkF m 0 #[.val (.ref x0), .val (.double x1), .second, .unset, .unset] [] := by first | (simp [entryFrame, mkF, argsToLocals, Value.category]; done) | rfl
theorem pnc_java_util_Arrays : plainName "java/util/Arrays" = true := by first | (simp [plainName, overriddenIn]; done) | decide +kernel
set_option maxRecDepth 65536 in
set_option maxHeartbeats 40000000 in
theorem rm10 (l : Launch) (Z : State) (a0 : Array Value) (hw : ∀ d ∈ tables_1, d.before a0 Z = true) (ws : List Jvm.Cond) (r0 : Addr) (d1 : UInt64) (kH : ClassId) (ua ub : UInt64) (h0 : Heap) (n0 : Nat) (Z0 : n0 ≤ h0.size) (A0 : Arv Z h0 r0 kH .double (2 : Int32) [(.double ua), (.double ub)] (.double 0)) (g_r0 : n0 ≤ r0) :
    MetFree l (⟨"java/util/Arrays", "fill", "([DD)V"⟩ : MethodName) (head1 (Jvm.Cond.code (⟨"java/util/Arrays", "fill", "([DD)V"⟩ : MethodName) jdk_65_method_113_code 5 none :: ws) ({ frames := 0, cells := 0, slots := 0, locals := 0 } : Room)) (fun a U => a = #[(.ref r0), (.double d1)] ∧ Z.Warmed39 U.vm ∧ U.heap = h0) (fun _ _ _ _ _ => True) (fun _ U o U' => ∃ v L, o = .returned v ∧ Q10 Z r0 d1 kH ua ub h0 n0 v U'.heap L ∧ FrameEnd U o U' L ({ frames := 0, cells := 0, slots := 0, locals := 0 } : Room).cells ({ frames := 0, cells := 0, slots := 0, locals := 0 } : Room).slots) := by
  refine MetFree.of_bodySF (plainFor_of_name pnc_java_util_Arrays) hisR ?_
  intro p e s m args below meth c s₁ Bd hml0 hP hK
  obtain ⟨rfl, hZ, hh⟩ := hP
  have hx := Bd.exec
  have hby := Bd.bytes
  have hml : c.maxLocals = 5 := hml0
  have hown : s.vm.findClass "java/util/Arrays" = some m.cls := findClass_of_methodNamed Bd.named
  have hnm := (name_of_methodNamed Bd.named Bd.method).1
  have X0 : Stand p l e ({ frames := 0, cells := 0, slots := 0, locals := 0 } : Room) s m #[(.ref r0), (.double d1)] below meth c s₁ [] 0 0 := Stand.of_body Bd
  have e0 : s₁.heap = h0 := by rw [← hh, Bd.state]; rfl
  have N0 := Fr.nil n0
  have kp0 : Keep h0 h0 [r0] := Keep.refl _ _
  have G0 : ∀ t, Steps p.tables e below (s₁.setTop (mkF m 0 #[.val (.ref r0), .val (.double d1), .second, .unset, .unset] [])) t → Steps p.tables e below (s₁.setTop (entryFrame m #[(.ref r0), (.double d1)] 5)) t := fun t k => castTop (ef_rm10 m r0 d1) k
  obtain ⟨cl1, Ar1, q1, S1, M1, H1, G1⟩ := id A0
  have G2 : ∀ t, Steps p.tables e below (s₁.setTop (mkF m 9 #[.val (.ref r0), .val (.double d1), .second, .val (.int (0 : Int32)), .val (.int (2 : Int32))] [(.int (2 : Int32)), (.int (0 : Int32))])) t → Steps p.tables e below (s₁.setTop (entryFrame m #[(.ref r0), (.double d1)] 5)) t := by
    intro t kt
    refine G0 _ ?_
    show Steps p.tables e below (s₁.setTop (mkF m 0 #[.val (.ref r0), .val (.double d1), .second, .unset, .unset] [])) _
    refine XS.iconst X0.here hx rfl (hb hby d10_0) ?_
    show Steps p.tables e below (s₁.setTop (mkF m 1 #[.val (.ref r0), .val (.double d1), .second, .unset, .unset] [(.int (0 : Int32))])) _
    refine XS.istoreN X0.here hx rfl (hb hby d10_1) rfl (l' := #[.val (.ref r0), .val (.double d1), .second, .val (.int (0 : Int32)), .unset]) rfl ?_
    show Steps p.tables e below (s₁.setTop (mkF m 2 #[.val (.ref r0), .val (.double d1), .second, .val (.int (0 : Int32)), .unset] [])) _
    refine XS.aloadN X0.here hx rfl (hb hby d10_2) rfl rfl ?_
    show Steps p.tables e below (s₁.setTop (mkF m 3 #[.val (.ref r0), .val (.double d1), .second, .val (.int (0 : Int32)), .unset] [(.ref r0)])) _
    refine X0.arraylength hx (by rw [e0]; exact Ar1.1) (State.isArrayOf_alike hZ.alike Ar1.2.1) (g := (mkF m 3 #[.val (.ref r0), .val (.double d1), .second, .val (.int (0 : Int32)), .unset] [(.ref r0)])) rfl rfl (hb hby d10_3) _ ?_
    rw [len_of S1 M1]
    show Steps p.tables e below (s₁.setTop (mkF m 4 #[.val (.ref r0), .val (.double d1), .second, .val (.int (0 : Int32)), .unset] [(.int (2 : Int32))])) _
    refine XS.istore X0.here hx rfl (hb hby d10_4) rfl (l' := #[.val (.ref r0), .val (.double d1), .second, .val (.int (0 : Int32)), .val (.int (2 : Int32))]) rfl ?_
    show Steps p.tables e below (s₁.setTop (mkF m 6 #[.val (.ref r0), .val (.double d1), .second, .val (.int (0 : Int32)), .val (.int (2 : Int32))] [])) _
    refine XS.iloadN X0.here hx rfl (hb hby d10_6) rfl ?_
    show Steps p.tables e below (s₁.setTop (mkF m 7 #[.val (.ref r0), .val (.double d1), .second, .val (.int (0 : Int32)), .val (.int (2 : Int32))] [(.int (0 : Int32))])) _
    refine XS.iload X0.here hx rfl (hb hby d10_7) rfl ?_
    exact kt
  obtain ⟨cl3, Ar3, q3, S3, M3, H3, G3⟩ := id A0
  have hin3 : ¬ ((0 : Int32) < 0 ∨ cl3.slots.size ≤ ((0 : Int32)).toNatClampNeg) := inb_of S3 ⟨by decide, by decide⟩
  obtain ⟨T4, h4, X4, e4, W4, st4⟩ := stD X0 hx hZ e0 Ar3 (j := (0 : Int32)) hin3 (g := (mkF m 15 #[.val (.ref r0), .val (.double d1), .second, .val (.int (0 : Int32)), .val (.int (2 : Int32))] [(.double d1), (.int (0 : Int32)), (.ref r0)])) rfl rfl (hb hby d10_15)
  have z5 : n0 ≤ h4.size := Nat.le_trans Z0 (Nat.le_of_eq W4.size.symm)
  have kp6 : Keep h0 h4 [r0] := kp0.wr W4 (Or.inl (List.mem_of_getElem? (i := 0) rfl))
  have fa7 : Arv Z h4 r0 kH .double (2 : Int32) [(.double d1), (.double ub)] (.double 0) := Arv.set Ar3 q3 S3 M3 H3 G3 rfl W4 0 rfl (Nat.le_of_ble_eq_true rfl)
  have N4 := Fr.snoc X4 N0 g_r0
  have G8 : ∀ t, Steps p.tables e below (T4.setTop (mkF m 9 #[.val (.ref r0), .val (.double d1), .second, .val (.int (1 : Int32)), .val (.int (2 : Int32))] [(.int (2 : Int32)), (.int (1 : Int32))])) t → Steps p.tables e below (s₁.setTop (entryFrame m #[(.ref r0), (.double d1)] 5)) t := by
    intro t kt
    refine G2 _ ?_
    show Steps p.tables e below (s₁.setTop (mkF m 9 #[.val (.ref r0), .val (.double d1), .second, .val (.int (0 : Int32)), .val (.int (2 : Int32))] [(.int (2 : Int32)), (.int (0 : Int32))])) _
    refine XS.icmpNo X0.here hx rfl (hb hby d10_9) rfl (tlt (by decide)).2.1 ?_
    show Steps p.tables e below (s₁.setTop (mkF m 12 #[.val (.ref r0), .val (.double d1), .second, .val (.int (0 : Int32)), .val (.int (2 : Int32))] [])) _
    refine XS.aloadN X0.here hx rfl (hb hby d10_12) rfl rfl ?_
    show Steps p.tables e below (s₁.setTop (mkF m 13 #[.val (.ref r0), .val (.double d1), .second, .val (.int (0 : Int32)), .val (.int (2 : Int32))] [(.ref r0)])) _
    refine XS.iloadN X0.here hx rfl (hb hby d10_13) rfl ?_
    show Steps p.tables e below (s₁.setTop (mkF m 14 #[.val (.ref r0), .val (.double d1), .second, .val (.int (0 : Int32)), .val (.int (2 : Int32))] [(.int (0 : Int32)), (.ref r0)])) _
    refine XS.dloadN X0.here hx rfl (hb hby d10_14) rfl ?_
    show Steps p.tables e below (s₁.setTop (mkF m 15 #[.val (.ref r0), .val (.double d1), .second, .val (.int (0 : Int32)), .val (.int (2 : Int32))] [(.double d1), (.int (0 : Int32)), (.ref r0)])) _
    refine st4 _ ?_
    show Steps p.tables e below (T4.setTop (mkF m 16 #[.val (.ref r0), .val (.double d1), .second, .val (.int (0 : Int32)), .val (.int (2 : Int32))] [])) _
    refine XS.iinc X4.here hx rfl (hb hby d10_16) rfl (l' := #[.val (.ref r0), .val (.double d1), .second, .val (.int (1 : Int32)), .val (.int (2 : Int32))]) rfl ?_
    show Steps p.tables e below (T4.setTop (mkF m 19 #[.val (.ref r0), .val (.double d1), .second, .val (.int (1 : Int32)), .val (.int (2 : Int32))] [])) _
    refine XS.goto X4.here hx rfl (pc0 := 19) (pc' := 6) rfl (hb hby d10_19) (by decide) (by decide) ?_
    show Steps p.tables e below (T4.setTop (mkF m 6 #[.val (.ref r0), .val (.double d1), .second, .val (.int (1 : Int32)), .val (.int (2 : Int32))] [])) _
    refine XS.iloadN X4.here hx rfl (hb hby d10_6) rfl ?_
    show Steps p.tables e below (T4.setTop (mkF m 7 #[.val (.ref r0), .val (.double d1), .second, .val (.int (1 : Int32)), .val (.int (2 : Int32))] [(.int (1 : Int32))])) _
    refine XS.iload X4.here hx rfl (hb hby d10_7) rfl ?_
    exact kt
  obtain ⟨cl9, Ar9, q9, S9, M9, H9, G9⟩ := id fa7
  have hin9 : ¬ ((1 : Int32) < 0 ∨ cl9.slots.size ≤ ((1 : Int32)).toNatClampNeg) := inb_of S9 ⟨by decide, by decide⟩
  obtain ⟨T10, h10, X10, e10, W10, st10⟩ := stD X4 hx hZ e4 Ar9 (j := (1 : Int32)) hin9 (g := (mkF m 15 #[.val (.ref r0), .val (.double d1), .second, .val (.int (1 : Int32)), .val (.int (2 : Int32))] [(.double d1), (.int (1 : Int32)), (.ref r0)])) rfl rfl (hb hby d10_15)
  have z11 : n0 ≤ h10.size := Nat.le_trans z5 (Nat.le_of_eq W10.size.symm)
  have kp12 : Keep h0 h10 [r0] := kp6.wr W10 (Or.inl (List.mem_of_getElem? (i := 0) rfl))
  have fa13 : Arv Z h10 r0 kH .double (2 : Int32) [(.double d1), (.double d1)] (.double 0) := Arv.set Ar9 q9 S9 M9 H9 G9 rfl W10 1 rfl (Nat.le_of_ble_eq_true rfl)
  have N10 := Fr.snoc X10 N4 g_r0
  have G14 : ∀ t, Steps p.tables e below (T10.setTop (mkF m 9 #[.val (.ref r0), .val (.double d1), .second, .val (.int (2 : Int32)), .val (.int (2 : Int32))] [(.int (2 : Int32)), (.int (2 : Int32))])) t → Steps p.tables e below (s₁.setTop (entryFrame m #[(.ref r0), (.double d1)] 5)) t := by
    intro t kt
    refine G8 _ ?_
    show Steps p.tables e below (T4.setTop (mkF m 9 #[.val (.ref r0), .val (.double d1), .second, .val (.int (1 : Int32)), .val (.int (2 : Int32))] [(.int (2 : Int32)), (.int (1 : Int32))])) _
    refine XS.icmpNo X4.here hx rfl (hb hby d10_9) rfl (tlt (by decide)).2.1 ?_
    show Steps p.tables e below (T4.setTop (mkF m 12 #[.val (.ref r0), .val (.double d1), .second, .val (.int (1 : Int32)), .val (.int (2 : Int32))] [])) _
    refine XS.aloadN X4.here hx rfl (hb hby d10_12) rfl rfl ?_
    show Steps p.tables e below (T4.setTop (mkF m 13 #[.val (.ref r0), .val (.double d1), .second, .val (.int (1 : Int32)), .val (.int (2 : Int32))] [(.ref r0)])) _
    refine XS.iloadN X4.here hx rfl (hb hby d10_13) rfl ?_
    show Steps p.tables e below (T4.setTop (mkF m 14 #[.val (.ref r0), .val (.double d1), .second, .val (.int (1 : Int32)), .val (.int (2 : Int32))] [(.int (1 : Int32)), (.ref r0)])) _
    refine XS.dloadN X4.here hx rfl (hb hby d10_14) rfl ?_
    show Steps p.tables e below (T4.setTop (mkF m 15 #[.val (.ref r0), .val (.double d1), .second, .val (.int (1 : Int32)), .val (.int (2 : Int32))] [(.double d1), (.int (1 : Int32)), (.ref r0)])) _
    refine st10 _ ?_
    show Steps p.tables e below (T10.setTop (mkF m 16 #[.val (.ref r0), .val (.double d1), .second, .val (.int (1 : Int32)), .val (.int (2 : Int32))] [])) _
    refine XS.iinc X10.here hx rfl (hb hby d10_16) rfl (l' := #[.val (.ref r0), .val (.double d1), .second, .val (.int (2 : Int32)), .val (.int (2 : Int32))]) rfl ?_
    show Steps p.tables e below (T10.setTop (mkF m 19 #[.val (.ref r0), .val (.double d1), .second, .val (.int (2 : Int32)), .val (.int (2 : Int32))] [])) _
    refine XS.goto X10.here hx rfl (pc0 := 19) (pc' := 6) rfl (hb hby d10_19) (by decide) (by decide) ?_
    show Steps p.tables e below (T10.setTop (mkF m 6 #[.val (.ref r0), .val (.double d1), .second, .val (.int (2 : Int32)), .val (.int (2 : Int32))] [])) _
    refine XS.iloadN X10.here hx rfl (hb hby d10_6) rfl ?_
    show Steps p.tables e below (T10.setTop (mkF m 7 #[.val (.ref r0), .val (.double d1), .second, .val (.int (2 : Int32)), .val (.int (2 : Int32))] [(.int (2 : Int32))])) _
    refine XS.iload X10.here hx rfl (hb hby d10_7) rfl ?_
    exact kt
  obtain ⟨fs, hr, hrun, hended, hW, hsame⟩ := X10.leave (v := none) (fun _ => rfl)
  refine ⟨_, _, G14 _ ?_, hrun, hended, _, _, rfl, ?_, ⟨_, rfl⟩, hW, hsame.mono (by decide) (by decide)⟩
  · skip
    show Steps p.tables e below (T10.setTop (mkF m 9 #[.val (.ref r0), .val (.double d1), .second, .val (.int (2 : Int32)), .val (.int (2 : Int32))] [(.int (2 : Int32)), (.int (2 : Int32))])) _
    refine XS.icmpYes X10.here hx rfl (pc0 := 9) (pc' := 22) rfl (hb hby d10_9) rfl (flt (by decide)).2.1 (by decide) (by decide) ?_
    show Steps p.tables e below (T10.setTop (mkF m 22 #[.val (.ref r0), .val (.double d1), .second, .val (.int (2 : Int32)), .val (.int (2 : Int32))] [])) _
    exact X10.returnOut hx Bd.returns (hb hby d10_22) hr
  · show Q10 Z r0 d1 kH ua ub h0 n0 _ T10.heap _
    rw [e10]
    exact ⟨rfl, N10, kp12, fa13⟩
theorem d9_0 : decode prog_43_method_2_code 0 = .ok (.aload_n 0, 1) := by decide +kernel
theorem d9_1 : decode prog_43_method_2_code 1 = .ok (.getfield 7, 3) := by decide +kernel
theorem d9_4 : decode prog_43_method_2_code 4 = .ok (.dload_n 1, 1) := by decide +kernel
theorem d9_5 : decode prog_43_method_2_code 5 = .ok (.invokestatic 16, 3) := by decide +kernel
theorem pd_2 : parseMethodDescriptor "([DD)V" = some ⟨[(.array .double), .double], none⟩ := by decide +kernel
theorem d9_8 : decode prog_43_method_2_code 8 = .ok (.aload_n 0, 1) := by decide +kernel
theorem d9_9 : decode prog_43_method_2_code 9 = .ok (.getfield 13, 3) := by decide +kernel
theorem d9_12 : decode prog_43_method_2_code 12 = .ok (.dconst 0, 1) := by decide +kernel
theorem d9_13 : decode prog_43_method_2_code 13 = .ok (.invokestatic 16, 3) := by decide +kernel
theorem d9_16 : decode prog_43_method_2_code 16 = .ok (.return_, 1) := by decide +kernel
def Q9 (Z : State) (r0 : Addr) (d1 : UInt64) (hA lA : Addr) (kH kL : ClassId) (ua ub va vb : UInt64) (h0 : Heap) (n0 : Nat) (v : Option Value) (h : Heap) (L : List Loc) : Prop := v = none ∧ Fr n0 L ∧ Keep h0 h [hA, lA] ∧ Arv Z h hA kH .double (2 : Int32) [(.double d1), (.double d1)] (.double 0) ∧ Arv Z h lA kL .double (2 : Int32) [(.double FP.dconst0), (.double FP.dconst0)] (.double 0)
theorem ef_rm9 (m : MethodId) (x0 : Addr) (x1 : UInt64) : entryFrame m #[(.ref x0), (.double x1)] 3 = mkF m 0 #[.val (.ref x0), .val (.double x1), .second] [] := by first | (simp [entryFrame, mkF, argsToLocals, Value.category]; done) | rfl
set_option maxRecDepth 65536 in
set_option maxHeartbeats 40000000 in
theorem rm9 (l : Launch) (Z : State) (a0 : Array Value) (hw : ∀ d ∈ tables_1, d.before a0 Z = true) (ws : List Jvm.Cond) (r0 : Addr) (d1 : UInt64) (hA lA : Addr) (kH kL : ClassId) (ua ub va vb : UInt64) (h0 : Heap) (n0 : Nat) (Z0 : n0 ≤ h0.size) (E0 : Exa Z h0 r0 "com/example/degree/degree/retrieval/DoubleDoubles") (Fh : Fld Z h0 r0 "com/example/degree/degree/retrieval/DoubleDoubles" "high" "[D" (.ref hA)) (Fl : Fld Z h0 r0 "com/example/degree/degree/retrieval/DoubleDoubles" "low" "[D" (.ref lA)) (Ah : Arv Z h0 hA kH .double (2 : Int32) [(.double ua), (.double ub)] (.double 0)) (Al : Arv Z h0 lA kL .double (2 : Int32) [(.double va), (.double vb)] (.double 0)) (g_hA : n0 ≤ hA) (g_lA : n0 ≤ lA) (hne : hA ≠ lA) (hz1 : r0 ≠ hA) (hz2 : r0 ≠ lA) :
    MetFree l (⟨"com/example/degree/degree/retrieval/DoubleDoubles", "fill", "(D)V"⟩ : MethodName) (head1 (Jvm.Cond.code (⟨"com/example/degree/degree/retrieval/DoubleDoubles", "fill", "(D)V"⟩ : MethodName) prog_43_method_2_code 3 none :: ws) ({ frames := 1, cells := 0, slots := 0, locals := 16 } : Room)) (fun a U => a = #[(.ref r0), (.double d1)] ∧ Z.Warmed39 U.vm ∧ U.heap = h0) (fun _ _ _ _ _ => True) (fun _ U o U' => ∃ v L, o = .returned v ∧ Q9 Z r0 d1 hA lA kH kL ua ub va vb h0 n0 v U'.heap L ∧ FrameEnd U o U' L ({ frames := 1, cells := 0, slots := 0, locals := 16 } : Room).cells ({ frames := 1, cells := 0, slots := 0, locals := 16 } : Room).slots) := by
  refine MetFree.of_bodySF (plainFor_of_name pnc_com_example_degree_degree_retrieval_DoubleDoubles) hisR ?_
  intro p e s m args below meth c s₁ Bd hml0 hP hK
  obtain ⟨rfl, hZ, hh⟩ := hP
  have hx := Bd.exec
  have hby := Bd.bytes
  have hml : c.maxLocals = 3 := hml0
  have hown : s.vm.findClass "com/example/degree/degree/retrieval/DoubleDoubles" = some m.cls := findClass_of_methodNamed Bd.named
  have hnm := (name_of_methodNamed Bd.named Bd.method).1
  have X0 : Stand p l e ({ frames := 1, cells := 0, slots := 0, locals := 16 } : Room) s m #[(.ref r0), (.double d1)] below meth c s₁ [] 0 0 := Stand.of_body Bd
  have e0 : s₁.heap = h0 := by rw [← hh, Bd.state]; rfl
  have N0 := Fr.nil n0
  have kp0 : Keep h0 h0 [hA, lA] := Keep.refl _ _
  have G0 : ∀ t, Steps p.tables e below (s₁.setTop (mkF m 0 #[.val (.ref r0), .val (.double d1), .second] [])) t → Steps p.tables e below (s₁.setTop (entryFrame m #[(.ref r0), (.double d1)] 3)) t := fun t k => castTop (ef_rm9 m r0 d1) k
  obtain ⟨T1, X1, e1, st1⟩ := getF X0 hx hZ hown (host := "") (Or.inl (hq hw 13 rfl)) Via.refl e0 Fh (g := (mkF m 1 #[.val (.ref r0), .val (.double d1), .second] [(.ref r0)])) rfl rfl (hb hby d9_1)
  obtain ⟨_, _, ⟨T2, L2, k2, n2⟩, -, X2, ⟨Lc2, hQ2, l2, y2, z2⟩, st2⟩ := Jvm.LawKit.callS X1 hx (y := (⟨"java/util/Arrays", "fill", "([DD)V"⟩ : MethodName)) hown (mvT hZ (hq hw 48 rfl)) (mvT hZ (hq hw 49 rfl)) (mvT hZ (hq hw 50 rfl)) (mvT hZ (hq hw 51 rfl)) (by decide) (backOf (W := 0) (rm10 l Z a0 hw [] hA d1 kH ua ub h0 n0 Z0 Ah g_hA) hZ (hq hw 51 rfl) (hq hw 50 rfl) (by decide) (by decide)) (g := (mkF m 5 #[.val (.ref r0), .val (.double d1), .second] [(.double d1), (.ref hA)])) rfl (by rw [hml]; rfl) (argsL := [(.ref hA), (.double d1)]) (rest := []) (lenOf pd_2 rfl) rfl (by show 2 * 0 + _ ≤ _; exact Nat.le_of_eq rfl) (hb hby d9_5) (fun _ _ => ⟨rfl, e1, (by decide : 0 + 0 ≤ _), (by decide : 0 + 0 ≤ _)⟩)
  dsimp only [Pt.U, Pt.locs, Pt.cells, Pt.slots] at X2 l2 y2 z2 st2 hQ2
  subst l2 y2 z2
  obtain ⟨rfl, N2q, K2, Vf2⟩ := hQ2
  have N2 := Fr.app N0 N2q
  have fa3 := E0.keep K2
  have fa4 := Fh.keep K2 (ninS hz1 nin0)
  have fa5 := Fl.keep K2 (ninS hz1 nin0)
  have fa6 := Al.keep K2 (ninS (Ne.symm hne) nin0)
  have z7 : n0 ≤ T2.heap.size := Nat.le_trans Z0 K2.1
  have kp8 : Keep h0 T2.heap [hA, lA] := kp0.trans K2 (allS (Or.inl (List.mem_of_getElem? (i := 0) rfl)) all0)
  obtain ⟨T9, X9, e9, st9⟩ := getF X2 hx hZ hown (host := "") (Or.inl (hq hw 15 rfl)) Via.refl rfl fa5 (g := (mkF m 9 #[.val (.ref r0), .val (.double d1), .second] [(.ref r0)])) rfl rfl (hb hby d9_9)
  obtain ⟨_, _, ⟨T10, L10, k10, n10⟩, -, X10, ⟨Lc10, hQ10, l10, y10, z10⟩, st10⟩ := Jvm.LawKit.callS X9 hx (y := (⟨"java/util/Arrays", "fill", "([DD)V"⟩ : MethodName)) hown (mvT hZ (hq hw 48 rfl)) (mvT hZ (hq hw 49 rfl)) (mvT hZ (hq hw 50 rfl)) (mvT hZ (hq hw 51 rfl)) (by decide) (backOf (W := 0) (rm10 l Z a0 hw [] lA FP.dconst0 kL va vb T2.heap n0 z7 fa6 g_lA) hZ (hq hw 51 rfl) (hq hw 50 rfl) (by decide) (by decide)) (g := (mkF m 13 #[.val (.ref r0), .val (.double d1), .second] [(.double FP.dconst0), (.ref lA)])) rfl (by rw [hml]; rfl) (argsL := [(.ref lA), (.double FP.dconst0)]) (rest := []) (lenOf pd_2 rfl) rfl (by show 2 * 0 + _ ≤ _; exact Nat.le_of_eq rfl) (hb hby d9_13) (fun _ _ => ⟨rfl, e9, (by decide : 0 + 0 ≤ _), (by decide : 0 + 0 ≤ _)⟩)
  dsimp only [Pt.U, Pt.locs, Pt.cells, Pt.slots] at X10 l10 y10 z10 st10 hQ10
  subst l10 y10 z10
  obtain ⟨rfl, N10q, K10, Vf10⟩ := hQ10
  have N10 := Fr.app N2 N10q
  have fa11 := fa3.keep K10
  have fa12 := fa4.keep K10 (ninS hz2 nin0)
  have fa13 := fa5.keep K10 (ninS hz2 nin0)
  have fa14 := Vf2.keep K10 (ninS hne nin0)
  have z15 : n0 ≤ T10.heap.size := Nat.le_trans z7 K10.1
  have kp16 : Keep h0 T10.heap [hA, lA] := kp8.trans K10 (allS (Or.inl (List.mem_of_getElem? (i := 1) rfl)) all0)
  obtain ⟨fs, hr, hrun, hended, hW, hsame⟩ := X10.leave (v := none) (fun _ => rfl)
  refine ⟨_, _, G0 _ ?_, hrun, hended, _, _, rfl, ?_, ⟨_, rfl⟩, hW, hsame.mono (by decide) (by decide)⟩
  · skip
    show Steps p.tables e below (s₁.setTop (mkF m 0 #[.val (.ref r0), .val (.double d1), .second] [])) _
    refine XS.aloadN X0.here hx rfl (hb hby d9_0) rfl rfl ?_
    show Steps p.tables e below (s₁.setTop (mkF m 1 #[.val (.ref r0), .val (.double d1), .second] [(.ref r0)])) _
    refine st1 _ ?_
    show Steps p.tables e below (T1.setTop (mkF m 4 #[.val (.ref r0), .val (.double d1), .second] [(.ref hA)])) _
    refine XS.dloadN X1.here hx rfl (hb hby d9_4) rfl ?_
    show Steps p.tables e below (T1.setTop (mkF m 5 #[.val (.ref r0), .val (.double d1), .second] [(.double d1), (.ref hA)])) _
    refine st2 _ ?_
    show Steps p.tables e below (T2.setTop (mkF m 8 #[.val (.ref r0), .val (.double d1), .second] [])) _
    refine XS.aloadN X2.here hx rfl (hb hby d9_8) rfl rfl ?_
    show Steps p.tables e below (T2.setTop (mkF m 9 #[.val (.ref r0), .val (.double d1), .second] [(.ref r0)])) _
    refine st9 _ ?_
    show Steps p.tables e below (T9.setTop (mkF m 12 #[.val (.ref r0), .val (.double d1), .second] [(.ref lA)])) _
    refine XS.dconst0 X9.here hx rfl (hb hby d9_12) rfl ?_
    show Steps p.tables e below (T9.setTop (mkF m 13 #[.val (.ref r0), .val (.double d1), .second] [(.double FP.dconst0), (.ref lA)])) _
    refine st10 _ ?_
    show Steps p.tables e below (T10.setTop (mkF m 16 #[.val (.ref r0), .val (.double d1), .second] [])) _
    exact X10.returnOut hx Bd.returns (hb hby d9_16) hr
  · show Q9 Z r0 d1 hA lA kH kL ua ub va vb h0 n0 _ T10.heap _
    exact ⟨rfl, N10, kp16, fa14, Vf10⟩
theorem d13_0 : decode prog_43_method_11_code 0 = .ok (.aload_n 0, 1) := by decide +kernel
theorem d13_1 : decode prog_43_method_11_code 1 = .ok (.getfield 7, 3) := by decide +kernel
theorem d13_4 : decode prog_43_method_11_code 4 = .ok (.iload_n 1, 1) := by decide +kernel
theorem d13_5 : decode prog_43_method_11_code 5 = .ok (.daload, 1) := by decide +kernel
theorem d13_6 : decode prog_43_method_11_code 6 = .ok (.dstore 6, 2) := by decide +kernel
theorem d13_8 : decode prog_43_method_11_code 8 = .ok (.dload 6, 2) := by decide +kernel
theorem d13_10 : decode prog_43_method_11_code 10 = .ok (.dload_n 2, 1) := by decide +kernel
theorem d13_11 : decode prog_43_method_11_code 11 = .ok (.dmul, 1) := by decide +kernel
theorem d13_12 : decode prog_43_method_11_code 12 = .ok (.dstore 8, 2) := by decide +kernel
theorem d13_14 : decode prog_43_method_11_code 14 = .ok (.dload 6, 2) := by decide +kernel
theorem d13_16 : decode prog_43_method_11_code 16 = .ok (.dload_n 2, 1) := by decide +kernel
theorem d13_17 : decode prog_43_method_11_code 17 = .ok (.dload 8, 2) := by decide +kernel
theorem d13_19 : decode prog_43_method_11_code 19 = .ok (.invokestatic 22, 3) := by decide +kernel
theorem d13_22 : decode prog_43_method_11_code 22 = .ok (.dload 6, 2) := by decide +kernel
theorem d13_24 : decode prog_43_method_11_code 24 = .ok (.dload 4, 2) := by decide +kernel
theorem d13_26 : decode prog_43_method_11_code 26 = .ok (.dmul, 1) := by decide +kernel
theorem d13_27 : decode prog_43_method_11_code 27 = .ok (.aload_n 0, 1) := by decide +kernel
theorem d13_28 : decode prog_43_method_11_code 28 = .ok (.getfield 13, 3) := by decide +kernel
theorem d13_31 : decode prog_43_method_11_code 31 = .ok (.iload_n 1, 1) := by decide +kernel
theorem d13_32 : decode prog_43_method_11_code 32 = .ok (.daload, 1) := by decide +kernel
theorem d13_33 : decode prog_43_method_11_code 33 = .ok (.dload_n 2, 1) := by decide +kernel
theorem d13_34 : decode prog_43_method_11_code 34 = .ok (.dmul, 1) := by decide +kernel
theorem d13_35 : decode prog_43_method_11_code 35 = .ok (.dadd, 1) := by decide +kernel
theorem d13_36 : decode prog_43_method_11_code 36 = .ok (.dadd, 1) := by decide +kernel
theorem d13_37 : decode prog_43_method_11_code 37 = .ok (.dstore 10, 2) := by decide +kernel
theorem d13_39 : decode prog_43_method_11_code 39 = .ok (.aload_n 0, 1) := by decide +kernel
theorem d13_40 : decode prog_43_method_11_code 40 = .ok (.iload_n 1, 1) := by decide +kernel
theorem d13_41 : decode prog_43_method_11_code 41 = .ok (.dload 8, 2) := by decide +kernel
theorem d13_43 : decode prog_43_method_11_code 43 = .ok (.dload 10, 2) := by decide +kernel
theorem d13_45 : decode prog_43_method_11_code 45 = .ok (.invokevirtual 26, 3) := by decide +kernel
theorem d13_48 : decode prog_43_method_11_code 48 = .ok (.return_, 1) := by decide +kernel
def ok13_0 (ua ub va vb d2 d3 : UInt64) : Prop := Jvm.Free.Fl.NoNaN64 (FP.dmul ua d2) ∧ ok4 ua d2 (FP.dmul ua d2) ∧ Jvm.Free.Fl.NoNaN64 (FP.dmul ua d3) ∧ Jvm.Free.Fl.NoNaN64 (FP.dmul va d2) ∧ Jvm.Free.Fl.NoNaN64 (FP.dadd (FP.dmul ua d3) (FP.dmul va d2)) ∧ Jvm.Free.Fl.NoNaN64 (FP.dadd (own_f4 ua d2 (FP.dmul ua d2)) (FP.dadd (FP.dmul ua d3) (FP.dmul va d2))) ∧ ok5_0 (FP.dmul ua d2) (FP.dadd (own_f4 ua d2 (FP.dmul ua d2)) (FP.dadd (FP.dmul ua d3) (FP.dmul va d2))) ∧ True
def Q_multiply_0 (Z : State) (r0 : Addr) (d2 : UInt64) (d3 : UInt64) (hA lA : Addr) (kH kL : ClassId) (ua ub va vb : UInt64) (h0 : Heap) (n0 : Nat) (v : Option Value) (h : Heap) (L : List Loc) : Prop := v = none ∧ Fr n0 L ∧ Keep h0 h [hA, lA] ∧ Arv Z h hA kH .double (2 : Int32) [(.double (own_mh ua va d2 d3)), (.double ub)] (.double 0) ∧ Arv Z h lA kL .double (2 : Int32) [(.double (own_ml ua va d2 d3)), (.double vb)] (.double 0)
theorem ef_rm_multiply_0 (m : MethodId) (x0 : Addr) (x1 : Int32) (x2 : UInt64) (x3 : UInt64) : entryFrame m #[(.ref x0), (.int x1), (.double x2), (.double x3)] 12 = mkF m 0 #[.val (.ref x0), .val (.int x1), .val (.double x2), .second, .val (.double x3), .second, .unset, .unset, .unset, .unset, .unset, .unset] [] := by first | (simp [entryFrame, mkF, argsToLocals, Value.category]; done) | rfl
set_option maxRecDepth 65536 in
set_option maxHeartbeats 40000000 in
theorem rm_multiply_0 (l : Launch) (Z : State) (a0 : Array Value) (hw : ∀ d ∈ tables_1, d.before a0 Z = true) (ws : List Jvm.Cond) (r0 : Addr) (d2 : UInt64) (d3 : UInt64) (hA lA : Addr) (kH kL : ClassId) (ua ub va vb : UInt64) (h0 : Heap) (n0 : Nat) (Z0 : n0 ≤ h0.size) (E0 : Exa Z h0 r0 "com/example/degree/degree/retrieval/DoubleDoubles") (Fh : Fld Z h0 r0 "com/example/degree/degree/retrieval/DoubleDoubles" "high" "[D" (.ref hA)) (Fl : Fld Z h0 r0 "com/example/degree/degree/retrieval/DoubleDoubles" "low" "[D" (.ref lA)) (Ah : Arv Z h0 hA kH .double (2 : Int32) [(.double ua), (.double ub)] (.double 0)) (Al : Arv Z h0 lA kL .double (2 : Int32) [(.double va), (.double vb)] (.double 0)) (g_hA : n0 ≤ hA) (g_lA : n0 ≤ lA) (hne : hA ≠ lA) (hz1 : r0 ≠ hA) (hz2 : r0 ≠ lA) (hok : ok13_0 ua ub va vb d2 d3) :
    MetFree l (⟨"com/example/degree/degree/retrieval/DoubleDoubles", "multiply", "(IDD)V"⟩ : MethodName) (head1 (Jvm.Cond.code (⟨"com/example/degree/degree/retrieval/DoubleDoubles", "multiply", "(IDD)V"⟩ : MethodName) prog_43_method_11_code 12 none :: ws) ({ frames := 2, cells := 0, slots := 0, locals := 42 } : Room)) (fun a U => a = #[(.ref r0), (.int (0 : Int32)), (.double d2), (.double d3)] ∧ Z.Warmed39 U.vm ∧ U.heap = h0) (fun _ _ _ _ _ => True) (fun _ U o U' => ∃ v L, o = .returned v ∧ Q_multiply_0 Z r0 d2 d3 hA lA kH kL ua ub va vb h0 n0 v U'.heap L ∧ FrameEnd U o U' L ({ frames := 2, cells := 0, slots := 0, locals := 42 } : Room).cells ({ frames := 2, cells := 0, slots := 0, locals := 42 } : Room).slots) := by
  refine MetFree.of_bodySF (plainFor_of_name pnc_com_example_degree_degree_retrieval_DoubleDoubles) hisR ?_
  intro p e s m args below meth c s₁ Bd hml0 hP hK
  obtain ⟨rfl, hZ, hh⟩ := hP
  have hx := Bd.exec
  have hby := Bd.bytes
  have hml : c.maxLocals = 12 := hml0
  have hown : s.vm.findClass "com/example/degree/degree/retrieval/DoubleDoubles" = some m.cls := findClass_of_methodNamed Bd.named
  have hnm := (name_of_methodNamed Bd.named Bd.method).1
  have X0 : Stand p l e ({ frames := 2, cells := 0, slots := 0, locals := 42 } : Room) s m #[(.ref r0), (.int (0 : Int32)), (.double d2), (.double d3)] below meth c s₁ [] 0 0 := Stand.of_body Bd
  have e0 : s₁.heap = h0 := by rw [← hh, Bd.state]; rfl
  have N0 := Fr.nil n0
  have kp0 : Keep h0 h0 [hA, lA] := Keep.refl _ _
  have G0 : ∀ t, Steps p.tables e below (s₁.setTop (mkF m 0 #[.val (.ref r0), .val (.int (0 : Int32)), .val (.double d2), .second, .val (.double d3), .second, .unset, .unset, .unset, .unset, .unset, .unset] [])) t → Steps p.tables e below (s₁.setTop (entryFrame m #[(.ref r0), (.int (0 : Int32)), (.double d2), (.double d3)] 12)) t := fun t k => castTop (ef_rm_multiply_0 m r0 (0 : Int32) d2 d3) k
  obtain ⟨hn0, hn1, hn2, hn3, hn4, hn5, hn6, -⟩ := hok
  obtain ⟨T1, X1, e1, st1⟩ := getF X0 hx hZ hown (host := "") (Or.inl (hq hw 13 rfl)) Via.refl e0 Fh (g := (mkF m 1 #[.val (.ref r0), .val (.int (0 : Int32)), .val (.double d2), .second, .val (.double d3), .second, .unset, .unset, .unset, .unset, .unset, .unset] [(.ref r0)])) rfl rfl (hb hby d13_1)
  obtain ⟨cl2, Ar2, q2, S2, M2, H2, G2⟩ := id Ah
  have hin2 : ¬ ((0 : Int32) < 0 ∨ cl2.slots.size ≤ ((0 : Int32)).toNatClampNeg) := inb_of S2 ⟨by decide, by decide⟩
  have hat2 : cl2.slots[((0 : Int32)).toNatClampNeg]? = some (.double ua) := H2.at hin2 rfl
  obtain ⟨_, _, ⟨T3, L3, k3, n3⟩, -, X3, ⟨Lc3, hQ3, l3, y3, z3⟩, st3⟩ := Jvm.LawKit.callS X1 hx (y := (⟨"com/example/degree/degree/retrieval/DoubleDoubles", "twoProductError", "(DDD)D"⟩ : MethodName)) hown (mvT hZ (hq hw 22 rfl)) (mvT hZ (hq hw 23 rfl)) (mvT hZ (hq hw 5 rfl)) (mvT hZ (hq hw 24 rfl)) (by decide) (backOf (W := 0) (rm4 l Z a0 hw [] ua d2 (FP.dmul ua d2)  h0 n0 Z0 hn1) hZ (hq hw 24 rfl) (hq hw 5 rfl) (by decide) (by decide)) (g := (mkF m 19 #[.val (.ref r0), .val (.int (0 : Int32)), .val (.double d2), .second, .val (.double d3), .second, .val (.double ua), .second, .val (.double (FP.dmul ua d2)), .second, .unset, .unset] [(.double (FP.dmul ua d2)), (.double d2), (.double ua)])) rfl (by rw [hml]; rfl) (argsL := [(.double ua), (.double d2), (.double (FP.dmul ua d2))]) (rest := []) (lenOf pd_0 rfl) rfl (by show 2 * 0 + _ ≤ _; exact Nat.le_of_eq rfl) (hb hby d13_19) (fun _ _ => ⟨rfl, e1, (by decide : 0 + 0 ≤ _), (by decide : 0 + 0 ≤ _)⟩)
  dsimp only [Pt.U, Pt.locs, Pt.cells, Pt.slots] at X3 l3 y3 z3 st3 hQ3
  subst l3 y3 z3
  obtain ⟨rfl, N3q, eh3⟩ := hQ3
  have N3 := Fr.app N0 N3q
  obtain ⟨T4, X4, e4, st4⟩ := getF X3 hx hZ hown (host := "") (Or.inl (hq hw 15 rfl)) Via.refl eh3 Fl (g := (mkF m 28 #[.val (.ref r0), .val (.int (0 : Int32)), .val (.double d2), .second, .val (.double d3), .second, .val (.double ua), .second, .val (.double (FP.dmul ua d2)), .second, .unset, .unset] [(.ref r0), (.double (FP.dmul ua d3)), (.double (own_f4 ua d2 (FP.dmul ua d2)))])) rfl rfl (hb hby d13_28)
  obtain ⟨cl5, Ar5, q5, S5, M5, H5, G5⟩ := id Al
  have hin5 : ¬ ((0 : Int32) < 0 ∨ cl5.slots.size ≤ ((0 : Int32)).toNatClampNeg) := inb_of S5 ⟨by decide, by decide⟩
  have hat5 : cl5.slots[((0 : Int32)).toNatClampNeg]? = some (.double va) := H5.at hin5 rfl
  obtain ⟨cq6, q6, q6'⟩ := E0.cell
  obtain ⟨_, _, ⟨T6, L6, k6, n6⟩, -, X6, ⟨Lc6, hQ6, l6, y6, z6⟩, st6⟩ := X4.privateBack hx (y := (⟨"com/example/degree/degree/retrieval/DoubleDoubles", "setNormalised", "(IDD)V"⟩ : MethodName)) hown (mvT hZ (hq hw 26 rfl)) (mvT hZ (hq hw 27 rfl)) (own_selp (mvT hZ (hq hw 4 rfl)) (mvT hZ (hq hw 27 rfl)) (mvP hZ (hq hw 28 rfl)) (by decide)) (Cond.privateMethod_at (mvP hZ (hq hw 28 rfl) (args := #[]))) (mvT hZ (hq hw 29 rfl)) (by decide) (backOf (W := 0) (rm_setNormalised_0 l Z a0 hw [] r0 (FP.dmul ua d2) (FP.dadd (own_f4 ua d2 (FP.dmul ua d2)) (FP.dadd (FP.dmul ua d3) (FP.dmul va d2))) hA lA kH kL ua ub va vb h0 n0 Z0 E0 Fh Fl Ah Al g_hA g_lA hne hz1 hz2 hn6) hZ (hq hw 29 rfl) (hq hw 5 rfl) (by decide) (by decide)) (g := (mkF m 45 #[.val (.ref r0), .val (.int (0 : Int32)), .val (.double d2), .second, .val (.double d3), .second, .val (.double ua), .second, .val (.double (FP.dmul ua d2)), .second, .val (.double (FP.dadd (own_f4 ua d2 (FP.dmul ua d2)) (FP.dadd (FP.dmul ua d3) (FP.dmul va d2)))), .second] [(.double (FP.dadd (own_f4 ua d2 (FP.dmul ua d2)) (FP.dadd (FP.dmul ua d3) (FP.dmul va d2)))), (.double (FP.dmul ua d2)), (.int (0 : Int32)), (.ref r0)])) rfl (by rw [hml]; rfl) (Steps.refl _) (a := r0) (by rw [e4]; exact q6) q6' (argsL := [(.int (0 : Int32)), (.double (FP.dmul ua d2)), (.double (FP.dadd (own_f4 ua d2 (FP.dmul ua d2)) (FP.dadd (FP.dmul ua d3) (FP.dmul va d2))))]) (rest := []) (lenOf pd_1 rfl) rfl (by show 2 * 0 + _ ≤ _; exact Nat.le_of_eq rfl) (hb hby d13_45) (fun _ _ => ⟨rfl, e4, (by decide : 0 + 0 ≤ _), (by decide : 0 + 0 ≤ _)⟩)
  dsimp only [Pt.U, Pt.locs, Pt.cells, Pt.slots] at X6 l6 y6 z6 st6 hQ6
  subst l6 y6 z6
  obtain ⟨rfl, N6q, K6, Vh6, Vl6⟩ := hQ6
  have N6 := Fr.app N3 N6q
  have fa7 := E0.keep K6
  have fa8 := Fh.keep K6 (ninS hz1 (ninS hz2 nin0))
  have fa9 := Fl.keep K6 (ninS hz1 (ninS hz2 nin0))
  have z10 : n0 ≤ T6.heap.size := Nat.le_trans Z0 K6.1
  have kp11 : Keep h0 T6.heap [hA, lA] := kp0.trans K6 (allS (Or.inl (List.mem_of_getElem? (i := 0) rfl)) (allS (Or.inl (List.mem_of_getElem? (i := 1) rfl)) all0))
  obtain ⟨fs, hr, hrun, hended, hW, hsame⟩ := X6.leave (v := none) (fun _ => rfl)
  refine ⟨_, _, G0 _ ?_, hrun, hended, _, _, rfl, ?_, ⟨_, rfl⟩, hW, hsame.mono (by decide) (by decide)⟩
  · skip
    show Steps p.tables e below (s₁.setTop (mkF m 0 #[.val (.ref r0), .val (.int (0 : Int32)), .val (.double d2), .second, .val (.double d3), .second, .unset, .unset, .unset, .unset, .unset, .unset] [])) _
    refine XS.aloadN X0.here hx rfl (hb hby d13_0) rfl rfl ?_
    show Steps p.tables e below (s₁.setTop (mkF m 1 #[.val (.ref r0), .val (.int (0 : Int32)), .val (.double d2), .second, .val (.double d3), .second, .unset, .unset, .unset, .unset, .unset, .unset] [(.ref r0)])) _
    refine st1 _ ?_
    show Steps p.tables e below (T1.setTop (mkF m 4 #[.val (.ref r0), .val (.int (0 : Int32)), .val (.double d2), .second, .val (.double d3), .second, .unset, .unset, .unset, .unset, .unset, .unset] [(.ref hA)])) _
    refine XS.iloadN X1.here hx rfl (hb hby d13_4) rfl ?_
    show Steps p.tables e below (T1.setTop (mkF m 5 #[.val (.ref r0), .val (.int (0 : Int32)), .val (.double d2), .second, .val (.double d3), .second, .unset, .unset, .unset, .unset, .unset, .unset] [(.int (0 : Int32)), (.ref hA)])) _
    refine X1.daload hx (j := (0 : Int32)) (v := (.double ua)) (by rw [e1]; exact Ar2.1) (State.isArrayOf_alike hZ.alike Ar2.2.1) Ar2.2.2 hin2 hat2 (g := (mkF m 5 #[.val (.ref r0), .val (.int (0 : Int32)), .val (.double d2), .second, .val (.double d3), .second, .unset, .unset, .unset, .unset, .unset, .unset] [(.int (0 : Int32)), (.ref hA)])) rfl rfl (hb hby d13_5) _ ?_
    show Steps p.tables e below (T1.setTop (mkF m 6 #[.val (.ref r0), .val (.int (0 : Int32)), .val (.double d2), .second, .val (.double d3), .second, .unset, .unset, .unset, .unset, .unset, .unset] [(.double ua)])) _
    refine XS.dstore X1.here hx rfl (hb hby d13_6) rfl (l' := #[.val (.ref r0), .val (.int (0 : Int32)), .val (.double d2), .second, .val (.double d3), .second, .val (.double ua), .second, .unset, .unset, .unset, .unset]) rfl ?_
    show Steps p.tables e below (T1.setTop (mkF m 8 #[.val (.ref r0), .val (.int (0 : Int32)), .val (.double d2), .second, .val (.double d3), .second, .val (.double ua), .second, .unset, .unset, .unset, .unset] [])) _
    refine XS.dload X1.here hx rfl (hb hby d13_8) rfl ?_
    show Steps p.tables e below (T1.setTop (mkF m 10 #[.val (.ref r0), .val (.int (0 : Int32)), .val (.double d2), .second, .val (.double d3), .second, .val (.double ua), .second, .unset, .unset, .unset, .unset] [(.double ua)])) _
    refine XS.dloadN X1.here hx rfl (hb hby d13_10) rfl ?_
    show Steps p.tables e below (T1.setTop (mkF m 11 #[.val (.ref r0), .val (.int (0 : Int32)), .val (.double d2), .second, .val (.double d3), .second, .val (.double ua), .second, .unset, .unset, .unset, .unset] [(.double d2), (.double ua)])) _
    refine XS.dmulS X1.here hx rfl (hb hby d13_11) rfl hn0 rfl ?_
    show Steps p.tables e below (T1.setTop (mkF m 12 #[.val (.ref r0), .val (.int (0 : Int32)), .val (.double d2), .second, .val (.double d3), .second, .val (.double ua), .second, .unset, .unset, .unset, .unset] [(.double (FP.dmul ua d2))])) _
    refine XS.dstore X1.here hx rfl (hb hby d13_12) rfl (l' := #[.val (.ref r0), .val (.int (0 : Int32)), .val (.double d2), .second, .val (.double d3), .second, .val (.double ua), .second, .val (.double (FP.dmul ua d2)), .second, .unset, .unset]) rfl ?_
    show Steps p.tables e below (T1.setTop (mkF m 14 #[.val (.ref r0), .val (.int (0 : Int32)), .val (.double d2), .second, .val (.double d3), .second, .val (.double ua), .second, .val (.double (FP.dmul ua d2)), .second, .unset, .unset] [])) _
    refine XS.dload X1.here hx rfl (hb hby d13_14) rfl ?_
    show Steps p.tables e below (T1.setTop (mkF m 16 #[.val (.ref r0), .val (.int (0 : Int32)), .val (.double d2), .second, .val (.double d3), .second, .val (.double ua), .second, .val (.double (FP.dmul ua d2)), .second, .unset, .unset] [(.double ua)])) _
    refine XS.dloadN X1.here hx rfl (hb hby d13_16) rfl ?_
    show Steps p.tables e below (T1.setTop (mkF m 17 #[.val (.ref r0), .val (.int (0 : Int32)), .val (.double d2), .second, .val (.double d3), .second, .val (.double ua), .second, .val (.double (FP.dmul ua d2)), .second, .unset, .unset] [(.double d2), (.double ua)])) _
    refine XS.dload X1.here hx rfl (hb hby d13_17) rfl ?_
    show Steps p.tables e below (T1.setTop (mkF m 19 #[.val (.ref r0), .val (.int (0 : Int32)), .val (.double d2), .second, .val (.double d3), .second, .val (.double ua), .second, .val (.double (FP.dmul ua d2)), .second, .unset, .unset] [(.double (FP.dmul ua d2)), (.double d2), (.double ua)])) _
    refine st3 _ ?_
    show Steps p.tables e below (T3.setTop (mkF m 22 #[.val (.ref r0), .val (.int (0 : Int32)), .val (.double d2), .second, .val (.double d3), .second, .val (.double ua), .second, .val (.double (FP.dmul ua d2)), .second, .unset, .unset] [(.double (own_f4 ua d2 (FP.dmul ua d2)))])) _
    refine XS.dload X3.here hx rfl (hb hby d13_22) rfl ?_
    show Steps p.tables e below (T3.setTop (mkF m 24 #[.val (.ref r0), .val (.int (0 : Int32)), .val (.double d2), .second, .val (.double d3), .second, .val (.double ua), .second, .val (.double (FP.dmul ua d2)), .second, .unset, .unset] [(.double ua), (.double (own_f4 ua d2 (FP.dmul ua d2)))])) _
    refine XS.dload X3.here hx rfl (hb hby d13_24) rfl ?_
    show Steps p.tables e below (T3.setTop (mkF m 26 #[.val (.ref r0), .val (.int (0 : Int32)), .val (.double d2), .second, .val (.double d3), .second, .val (.double ua), .second, .val (.double (FP.dmul ua d2)), .second, .unset, .unset] [(.double d3), (.double ua), (.double (own_f4 ua d2 (FP.dmul ua d2)))])) _
    refine XS.dmulS X3.here hx rfl (hb hby d13_26) rfl hn2 rfl ?_
    show Steps p.tables e below (T3.setTop (mkF m 27 #[.val (.ref r0), .val (.int (0 : Int32)), .val (.double d2), .second, .val (.double d3), .second, .val (.double ua), .second, .val (.double (FP.dmul ua d2)), .second, .unset, .unset] [(.double (FP.dmul ua d3)), (.double (own_f4 ua d2 (FP.dmul ua d2)))])) _
    refine XS.aloadN X3.here hx rfl (hb hby d13_27) rfl rfl ?_
    show Steps p.tables e below (T3.setTop (mkF m 28 #[.val (.ref r0), .val (.int (0 : Int32)), .val (.double d2), .second, .val (.double d3), .second, .val (.double ua), .second, .val (.double (FP.dmul ua d2)), .second, .unset, .unset] [(.ref r0), (.double (FP.dmul ua d3)), (.double (own_f4 ua d2 (FP.dmul ua d2)))])) _
    refine st4 _ ?_
    show Steps p.tables e below (T4.setTop (mkF m 31 #[.val (.ref r0), .val (.int (0 : Int32)), .val (.double d2), .second, .val (.double d3), .second, .val (.double ua), .second, .val (.double (FP.dmul ua d2)), .second, .unset, .unset] [(.ref lA), (.double (FP.dmul ua d3)), (.double (own_f4 ua d2 (FP.dmul ua d2)))])) _
    refine XS.iloadN X4.here hx rfl (hb hby d13_31) rfl ?_
    show Steps p.tables e below (T4.setTop (mkF m 32 #[.val (.ref r0), .val (.int (0 : Int32)), .val (.double d2), .second, .val (.double d3), .second, .val (.double ua), .second, .val (.double (FP.dmul ua d2)), .second, .unset, .unset] [(.int (0 : Int32)), (.ref lA), (.double (FP.dmul ua d3)), (.double (own_f4 ua d2 (FP.dmul ua d2)))])) _
    refine X4.daload hx (j := (0 : Int32)) (v := (.double va)) (by rw [e4]; exact Ar5.1) (State.isArrayOf_alike hZ.alike Ar5.2.1) Ar5.2.2 hin5 hat5 (g := (mkF m 32 #[.val (.ref r0), .val (.int (0 : Int32)), .val (.double d2), .second, .val (.double d3), .second, .val (.double ua), .second, .val (.double (FP.dmul ua d2)), .second, .unset, .unset] [(.int (0 : Int32)), (.ref lA), (.double (FP.dmul ua d3)), (.double (own_f4 ua d2 (FP.dmul ua d2)))])) rfl rfl (hb hby d13_32) _ ?_
    show Steps p.tables e below (T4.setTop (mkF m 33 #[.val (.ref r0), .val (.int (0 : Int32)), .val (.double d2), .second, .val (.double d3), .second, .val (.double ua), .second, .val (.double (FP.dmul ua d2)), .second, .unset, .unset] [(.double va), (.double (FP.dmul ua d3)), (.double (own_f4 ua d2 (FP.dmul ua d2)))])) _
    refine XS.dloadN X4.here hx rfl (hb hby d13_33) rfl ?_
    show Steps p.tables e below (T4.setTop (mkF m 34 #[.val (.ref r0), .val (.int (0 : Int32)), .val (.double d2), .second, .val (.double d3), .second, .val (.double ua), .second, .val (.double (FP.dmul ua d2)), .second, .unset, .unset] [(.double d2), (.double va), (.double (FP.dmul ua d3)), (.double (own_f4 ua d2 (FP.dmul ua d2)))])) _
    refine XS.dmulS X4.here hx rfl (hb hby d13_34) rfl hn3 rfl ?_
    show Steps p.tables e below (T4.setTop (mkF m 35 #[.val (.ref r0), .val (.int (0 : Int32)), .val (.double d2), .second, .val (.double d3), .second, .val (.double ua), .second, .val (.double (FP.dmul ua d2)), .second, .unset, .unset] [(.double (FP.dmul va d2)), (.double (FP.dmul ua d3)), (.double (own_f4 ua d2 (FP.dmul ua d2)))])) _
    refine XS.daddS X4.here hx rfl (hb hby d13_35) rfl hn4 rfl ?_
    show Steps p.tables e below (T4.setTop (mkF m 36 #[.val (.ref r0), .val (.int (0 : Int32)), .val (.double d2), .second, .val (.double d3), .second, .val (.double ua), .second, .val (.double (FP.dmul ua d2)), .second, .unset, .unset] [(.double (FP.dadd (FP.dmul ua d3) (FP.dmul va d2))), (.double (own_f4 ua d2 (FP.dmul ua d2)))])) _
    refine XS.daddS X4.here hx rfl (hb hby d13_36) rfl hn5 rfl ?_
    show Steps p.tables e below (T4.setTop (mkF m 37 #[.val (.ref r0), .val (.int (0 : Int32)), .val (.double d2), .second, .val (.double d3), .second, .val (.double ua), .second, .val (.double (FP.dmul ua d2)), .second, .unset, .unset] [(.double (FP.dadd (own_f4 ua d2 (FP.dmul ua d2)) (FP.dadd (FP.dmul ua d3) (FP.dmul va d2))))])) _
    refine XS.dstore X4.here hx rfl (hb hby d13_37) rfl (l' := #[.val (.ref r0), .val (.int (0 : Int32)), .val (.double d2), .second, .val (.double d3), .second, .val (.double ua), .second, .val (.double (FP.dmul ua d2)), .second, .val (.double (FP.dadd (own_f4 ua d2 (FP.dmul ua d2)) (FP.dadd (FP.dmul ua d3) (FP.dmul va d2)))), .second]) rfl ?_
    show Steps p.tables e below (T4.setTop (mkF m 39 #[.val (.ref r0), .val (.int (0 : Int32)), .val (.double d2), .second, .val (.double d3), .second, .val (.double ua), .second, .val (.double (FP.dmul ua d2)), .second, .val (.double (FP.dadd (own_f4 ua d2 (FP.dmul ua d2)) (FP.dadd (FP.dmul ua d3) (FP.dmul va d2)))), .second] [])) _
    refine XS.aloadN X4.here hx rfl (hb hby d13_39) rfl rfl ?_
    show Steps p.tables e below (T4.setTop (mkF m 40 #[.val (.ref r0), .val (.int (0 : Int32)), .val (.double d2), .second, .val (.double d3), .second, .val (.double ua), .second, .val (.double (FP.dmul ua d2)), .second, .val (.double (FP.dadd (own_f4 ua d2 (FP.dmul ua d2)) (FP.dadd (FP.dmul ua d3) (FP.dmul va d2)))), .second] [(.ref r0)])) _
    refine XS.iloadN X4.here hx rfl (hb hby d13_40) rfl ?_
    show Steps p.tables e below (T4.setTop (mkF m 41 #[.val (.ref r0), .val (.int (0 : Int32)), .val (.double d2), .second, .val (.double d3), .second, .val (.double ua), .second, .val (.double (FP.dmul ua d2)), .second, .val (.double (FP.dadd (own_f4 ua d2 (FP.dmul ua d2)) (FP.dadd (FP.dmul ua d3) (FP.dmul va d2)))), .second] [(.int (0 : Int32)), (.ref r0)])) _
    refine XS.dload X4.here hx rfl (hb hby d13_41) rfl ?_
    show Steps p.tables e below (T4.setTop (mkF m 43 #[.val (.ref r0), .val (.int (0 : Int32)), .val (.double d2), .second, .val (.double d3), .second, .val (.double ua), .second, .val (.double (FP.dmul ua d2)), .second, .val (.double (FP.dadd (own_f4 ua d2 (FP.dmul ua d2)) (FP.dadd (FP.dmul ua d3) (FP.dmul va d2)))), .second] [(.double (FP.dmul ua d2)), (.int (0 : Int32)), (.ref r0)])) _
    refine XS.dload X4.here hx rfl (hb hby d13_43) rfl ?_
    show Steps p.tables e below (T4.setTop (mkF m 45 #[.val (.ref r0), .val (.int (0 : Int32)), .val (.double d2), .second, .val (.double d3), .second, .val (.double ua), .second, .val (.double (FP.dmul ua d2)), .second, .val (.double (FP.dadd (own_f4 ua d2 (FP.dmul ua d2)) (FP.dadd (FP.dmul ua d3) (FP.dmul va d2)))), .second] [(.double (FP.dadd (own_f4 ua d2 (FP.dmul ua d2)) (FP.dadd (FP.dmul ua d3) (FP.dmul va d2)))), (.double (FP.dmul ua d2)), (.int (0 : Int32)), (.ref r0)])) _
    refine st6.trans ?_
    show Steps p.tables e below (T6.setTop (mkF m 48 #[.val (.ref r0), .val (.int (0 : Int32)), .val (.double d2), .second, .val (.double d3), .second, .val (.double ua), .second, .val (.double (FP.dmul ua d2)), .second, .val (.double (FP.dadd (own_f4 ua d2 (FP.dmul ua d2)) (FP.dadd (FP.dmul ua d3) (FP.dmul va d2)))), .second] [])) _
    exact X6.returnOut hx Bd.returns (hb hby d13_48) hr
  · show Q_multiply_0 Z r0 d2 d3 hA lA kH kL ua ub va vb h0 n0 _ T6.heap _
    exact ⟨rfl, N6, kp11, Vh6, Vl6⟩
def ok13_1 (ua ub va vb d2 d3 : UInt64) : Prop := Jvm.Free.Fl.NoNaN64 (FP.dmul ub d2) ∧ ok4 ub d2 (FP.dmul ub d2) ∧ Jvm.Free.Fl.NoNaN64 (FP.dmul ub d3) ∧ Jvm.Free.Fl.NoNaN64 (FP.dmul vb d2) ∧ Jvm.Free.Fl.NoNaN64 (FP.dadd (FP.dmul ub d3) (FP.dmul vb d2)) ∧ Jvm.Free.Fl.NoNaN64 (FP.dadd (own_f4 ub d2 (FP.dmul ub d2)) (FP.dadd (FP.dmul ub d3) (FP.dmul vb d2))) ∧ ok5_1 (FP.dmul ub d2) (FP.dadd (own_f4 ub d2 (FP.dmul ub d2)) (FP.dadd (FP.dmul ub d3) (FP.dmul vb d2))) ∧ True
def Q_multiply_1 (Z : State) (r0 : Addr) (d2 : UInt64) (d3 : UInt64) (hA lA : Addr) (kH kL : ClassId) (ua ub va vb : UInt64) (h0 : Heap) (n0 : Nat) (v : Option Value) (h : Heap) (L : List Loc) : Prop := v = none ∧ Fr n0 L ∧ Keep h0 h [hA, lA] ∧ Arv Z h hA kH .double (2 : Int32) [(.double ua), (.double (own_mh ub vb d2 d3))] (.double 0) ∧ Arv Z h lA kL .double (2 : Int32) [(.double va), (.double (own_ml ub vb d2 d3))] (.double 0)
theorem ef_rm_multiply_1 (m : MethodId) (x0 : Addr) (x1 : Int32) (x2 : UInt64) (x3 : UInt64) : entryFrame m #[(.ref x0), (.int x1), (.double x2), (.double x3)] 12 = mkF m 0 #[.val (.ref x0), .val (.int x1), .val (.double x2), .second, .val (.double x3), .second, .unset, .unset, .unset, .unset, .unset, .unset] [] := by first | (simp [entryFrame, mkF, argsToLocals, Value.category]; done) | rfl
set_option maxRecDepth 65536 in
set_option maxHeartbeats 40000000 in
theorem rm_multiply_1 (l : Launch) (Z : State) (a0 : Array Value) (hw : ∀ d ∈ tables_1, d.before a0 Z = true) (ws : List Jvm.Cond) (r0 : Addr) (d2 : UInt64) (d3 : UInt64) (hA lA : Addr) (kH kL : ClassId) (ua ub va vb : UInt64) (h0 : Heap) (n0 : Nat) (Z0 : n0 ≤ h0.size) (E0 : Exa Z h0 r0 "com/example/degree/degree/retrieval/DoubleDoubles") (Fh : Fld Z h0 r0 "com/example/degree/degree/retrieval/DoubleDoubles" "high" "[D" (.ref hA)) (Fl : Fld Z h0 r0 "com/example/degree/degree/retrieval/DoubleDoubles" "low" "[D" (.ref lA)) (Ah : Arv Z h0 hA kH .double (2 : Int32) [(.double ua), (.double ub)] (.double 0)) (Al : Arv Z h0 lA kL .double (2 : Int32) [(.double va), (.double vb)] (.double 0)) (g_hA : n0 ≤ hA) (g_lA : n0 ≤ lA) (hne : hA ≠ lA) (hz1 : r0 ≠ hA) (hz2 : r0 ≠ lA) (hok : ok13_1 ua ub va vb d2 d3) :
    MetFree l (⟨"com/example/degree/degree/retrieval/DoubleDoubles", "multiply", "(IDD)V"⟩ : MethodName) (head1 (Jvm.Cond.code (⟨"com/example/degree/degree/retrieval/DoubleDoubles", "multiply", "(IDD)V"⟩ : MethodName) prog_43_method_11_code 12 none :: ws) ({ frames := 2, cells := 0, slots := 0, locals := 42 } : Room)) (fun a U => a = #[(.ref r0), (.int (1 : Int32)), (.double d2), (.double d3)] ∧ Z.Warmed39 U.vm ∧ U.heap = h0) (fun _ _ _ _ _ => True) (fun _ U o U' => ∃ v L, o = .returned v ∧ Q_multiply_1 Z r0 d2 d3 hA lA kH kL ua ub va vb h0 n0 v U'.heap L ∧ FrameEnd U o U' L ({ frames := 2, cells := 0, slots := 0, locals := 42 } : Room).cells ({ frames := 2, cells := 0, slots := 0, locals := 42 } : Room).slots) := by
  refine MetFree.of_bodySF (plainFor_of_name pnc_com_example_degree_degree_retrieval_DoubleDoubles) hisR ?_
  intro p e s m args below meth c s₁ Bd hml0 hP hK
  obtain ⟨rfl, hZ, hh⟩ := hP
  have hx := Bd.exec
  have hby := Bd.bytes
  have hml : c.maxLocals = 12 := hml0
  have hown : s.vm.findClass "com/example/degree/degree/retrieval/DoubleDoubles" = some m.cls := findClass_of_methodNamed Bd.named
  have hnm := (name_of_methodNamed Bd.named Bd.method).1
  have X0 : Stand p l e ({ frames := 2, cells := 0, slots := 0, locals := 42 } : Room) s m #[(.ref r0), (.int (1 : Int32)), (.double d2), (.double d3)] below meth c s₁ [] 0 0 := Stand.of_body Bd
  have e0 : s₁.heap = h0 := by rw [← hh, Bd.state]; rfl
  have N0 := Fr.nil n0
  have kp0 : Keep h0 h0 [hA, lA] := Keep.refl _ _
  have G0 : ∀ t, Steps p.tables e below (s₁.setTop (mkF m 0 #[.val (.ref r0), .val (.int (1 : Int32)), .val (.double d2), .second, .val (.double d3), .second, .unset, .unset, .unset, .unset, .unset, .unset] [])) t → Steps p.tables e below (s₁.setTop (entryFrame m #[(.ref r0), (.int (1 : Int32)), (.double d2), (.double d3)] 12)) t := fun t k => castTop (ef_rm_multiply_1 m r0 (1 : Int32) d2 d3) k
  obtain ⟨hn0, hn1, hn2, hn3, hn4, hn5, hn6, -⟩ := hok
  obtain ⟨T1, X1, e1, st1⟩ := getF X0 hx hZ hown (host := "") (Or.inl (hq hw 13 rfl)) Via.refl e0 Fh (g := (mkF m 1 #[.val (.ref r0), .val (.int (1 : Int32)), .val (.double d2), .second, .val (.double d3), .second, .unset, .unset, .unset, .unset, .unset, .unset] [(.ref r0)])) rfl rfl (hb hby d13_1)
  obtain ⟨cl2, Ar2, q2, S2, M2, H2, G2⟩ := id Ah
  have hin2 : ¬ ((1 : Int32) < 0 ∨ cl2.slots.size ≤ ((1 : Int32)).toNatClampNeg) := inb_of S2 ⟨by decide, by decide⟩
  have hat2 : cl2.slots[((1 : Int32)).toNatClampNeg]? = some (.double ub) := H2.at hin2 rfl
  obtain ⟨_, _, ⟨T3, L3, k3, n3⟩, -, X3, ⟨Lc3, hQ3, l3, y3, z3⟩, st3⟩ := Jvm.LawKit.callS X1 hx (y := (⟨"com/example/degree/degree/retrieval/DoubleDoubles", "twoProductError", "(DDD)D"⟩ : MethodName)) hown (mvT hZ (hq hw 22 rfl)) (mvT hZ (hq hw 23 rfl)) (mvT hZ (hq hw 5 rfl)) (mvT hZ (hq hw 24 rfl)) (by decide) (backOf (W := 0) (rm4 l Z a0 hw [] ub d2 (FP.dmul ub d2)  h0 n0 Z0 hn1) hZ (hq hw 24 rfl) (hq hw 5 rfl) (by decide) (by decide)) (g := (mkF m 19 #[.val (.ref r0), .val (.int (1 : Int32)), .val (.double d2), .second, .val (.double d3), .second, .val (.double ub), .second, .val (.double (FP.dmul ub d2)), .second, .unset, .unset] [(.double (FP.dmul ub d2)), (.double d2), (.double ub)])) rfl (by rw [hml]; rfl) (argsL := [(.double ub), (.double d2), (.double (FP.dmul ub d2))]) (rest := []) (lenOf pd_0 rfl) rfl (by show 2 * 0 + _ ≤ _; exact Nat.le_of_eq rfl) (hb hby d13_19) (fun _ _ => ⟨rfl, e1, (by decide : 0 + 0 ≤ _), (by decide : 0 + 0 ≤ _)⟩)
  dsimp only [Pt.U, Pt.locs, Pt.cells, Pt.slots] at X3 l3 y3 z3 st3 hQ3
  subst l3 y3 z3
  obtain ⟨rfl, N3q, eh3⟩ := hQ3
  have N3 := Fr.app N0 N3q
  obtain ⟨T4, X4, e4, st4⟩ := getF X3 hx hZ hown (host := "") (Or.inl (hq hw 15 rfl)) Via.refl eh3 Fl (g := (mkF m 28 #[.val (.ref r0), .val (.int (1 : Int32)), .val (.double d2), .second, .val (.double d3), .second, .val (.double ub), .second, .val (.double (FP.dmul ub d2)), .second, .unset, .unset] [(.ref r0), (.double (FP.dmul ub d3)), (.double (own_f4 ub d2 (FP.dmul ub d2)))])) rfl rfl (hb hby d13_28)
  obtain ⟨cl5, Ar5, q5, S5, M5, H5, G5⟩ := id Al
  have hin5 : ¬ ((1 : Int32) < 0 ∨ cl5.slots.size ≤ ((1 : Int32)).toNatClampNeg) := inb_of S5 ⟨by decide, by decide⟩
  have hat5 : cl5.slots[((1 : Int32)).toNatClampNeg]? = some (.double vb) := H5.at hin5 rfl
  obtain ⟨cq6, q6, q6'⟩ := E0.cell
  obtain ⟨_, _, ⟨T6, L6, k6, n6⟩, -, X6, ⟨Lc6, hQ6, l6, y6, z6⟩, st6⟩ := X4.privateBack hx (y := (⟨"com/example/degree/degree/retrieval/DoubleDoubles", "setNormalised", "(IDD)V"⟩ : MethodName)) hown (mvT hZ (hq hw 26 rfl)) (mvT hZ (hq hw 27 rfl)) (own_selp (mvT hZ (hq hw 4 rfl)) (mvT hZ (hq hw 27 rfl)) (mvP hZ (hq hw 28 rfl)) (by decide)) (Cond.privateMethod_at (mvP hZ (hq hw 28 rfl) (args := #[]))) (mvT hZ (hq hw 29 rfl)) (by decide) (backOf (W := 0) (rm_setNormalised_1 l Z a0 hw [] r0 (FP.dmul ub d2) (FP.dadd (own_f4 ub d2 (FP.dmul ub d2)) (FP.dadd (FP.dmul ub d3) (FP.dmul vb d2))) hA lA kH kL ua ub va vb h0 n0 Z0 E0 Fh Fl Ah Al g_hA g_lA hne hz1 hz2 hn6) hZ (hq hw 29 rfl) (hq hw 5 rfl) (by decide) (by decide)) (g := (mkF m 45 #[.val (.ref r0), .val (.int (1 : Int32)), .val (.double d2), .second, .val (.double d3), .second, .val (.double ub), .second, .val (.double (FP.dmul ub d2)), .second, .val (.double (FP.dadd (own_f4 ub d2 (FP.dmul ub d2)) (FP.dadd (FP.dmul ub d3) (FP.dmul vb d2)))), .second] [(.double (FP.dadd (own_f4 ub d2 (FP.dmul ub d2)) (FP.dadd (FP.dmul ub d3) (FP.dmul vb d2)))), (.double (FP.dmul ub d2)), (.int (1 : Int32)), (.ref r0)])) rfl (by rw [hml]; rfl) (Steps.refl _) (a := r0) (by rw [e4]; exact q6) q6' (argsL := [(.int (1 : Int32)), (.double (FP.dmul ub d2)), (.double (FP.dadd (own_f4 ub d2 (FP.dmul ub d2)) (FP.dadd (FP.dmul ub d3) (FP.dmul vb d2))))]) (rest := []) (lenOf pd_1 rfl) rfl (by show 2 * 0 + _ ≤ _; exact Nat.le_of_eq rfl) (hb hby d13_45) (fun _ _ => ⟨rfl, e4, (by decide : 0 + 0 ≤ _), (by decide : 0 + 0 ≤ _)⟩)
  dsimp only [Pt.U, Pt.locs, Pt.cells, Pt.slots] at X6 l6 y6 z6 st6 hQ6
  subst l6 y6 z6
  obtain ⟨rfl, N6q, K6, Vh6, Vl6⟩ := hQ6
  have N6 := Fr.app N3 N6q
  have fa7 := E0.keep K6
  have fa8 := Fh.keep K6 (ninS hz1 (ninS hz2 nin0))
  have fa9 := Fl.keep K6 (ninS hz1 (ninS hz2 nin0))
  have z10 : n0 ≤ T6.heap.size := Nat.le_trans Z0 K6.1
  have kp11 : Keep h0 T6.heap [hA, lA] := kp0.trans K6 (allS (Or.inl (List.mem_of_getElem? (i := 0) rfl)) (allS (Or.inl (List.mem_of_getElem? (i := 1) rfl)) all0))
  obtain ⟨fs, hr, hrun, hended, hW, hsame⟩ := X6.leave (v := none) (fun _ => rfl)
  refine ⟨_, _, G0 _ ?_, hrun, hended, _, _, rfl, ?_, ⟨_, rfl⟩, hW, hsame.mono (by decide) (by decide)⟩
  · skip
    show Steps p.tables e below (s₁.setTop (mkF m 0 #[.val (.ref r0), .val (.int (1 : Int32)), .val (.double d2), .second, .val (.double d3), .second, .unset, .unset, .unset, .unset, .unset, .unset] [])) _
    refine XS.aloadN X0.here hx rfl (hb hby d13_0) rfl rfl ?_
    show Steps p.tables e below (s₁.setTop (mkF m 1 #[.val (.ref r0), .val (.int (1 : Int32)), .val (.double d2), .second, .val (.double d3), .second, .unset, .unset, .unset, .unset, .unset, .unset] [(.ref r0)])) _
    refine st1 _ ?_
    show Steps p.tables e below (T1.setTop (mkF m 4 #[.val (.ref r0), .val (.int (1 : Int32)), .val (.double d2), .second, .val (.double d3), .second, .unset, .unset, .unset, .unset, .unset, .unset] [(.ref hA)])) _
    refine XS.iloadN X1.here hx rfl (hb hby d13_4) rfl ?_
    show Steps p.tables e below (T1.setTop (mkF m 5 #[.val (.ref r0), .val (.int (1 : Int32)), .val (.double d2), .second, .val (.double d3), .second, .unset, .unset, .unset, .unset, .unset, .unset] [(.int (1 : Int32)), (.ref hA)])) _
    refine X1.daload hx (j := (1 : Int32)) (v := (.double ub)) (by rw [e1]; exact Ar2.1) (State.isArrayOf_alike hZ.alike Ar2.2.1) Ar2.2.2 hin2 hat2 (g := (mkF m 5 #[.val (.ref r0), .val (.int (1 : Int32)), .val (.double d2), .second, .val (.double d3), .second, .unset, .unset, .unset, .unset, .unset, .unset] [(.int (1 : Int32)), (.ref hA)])) rfl rfl (hb hby d13_5) _ ?_
    show Steps p.tables e below (T1.setTop (mkF m 6 #[.val (.ref r0), .val (.int (1 : Int32)), .val (.double d2), .second, .val (.double d3), .second, .unset, .unset, .unset, .unset, .unset, .unset] [(.double ub)])) _
    refine XS.dstore X1.here hx rfl (hb hby d13_6) rfl (l' := #[.val (.ref r0), .val (.int (1 : Int32)), .val (.double d2), .second, .val (.double d3), .second, .val (.double ub), .second, .unset, .unset, .unset, .unset]) rfl ?_
    show Steps p.tables e below (T1.setTop (mkF m 8 #[.val (.ref r0), .val (.int (1 : Int32)), .val (.double d2), .second, .val (.double d3), .second, .val (.double ub), .second, .unset, .unset, .unset, .unset] [])) _
    refine XS.dload X1.here hx rfl (hb hby d13_8) rfl ?_
    show Steps p.tables e below (T1.setTop (mkF m 10 #[.val (.ref r0), .val (.int (1 : Int32)), .val (.double d2), .second, .val (.double d3), .second, .val (.double ub), .second, .unset, .unset, .unset, .unset] [(.double ub)])) _
    refine XS.dloadN X1.here hx rfl (hb hby d13_10) rfl ?_
    show Steps p.tables e below (T1.setTop (mkF m 11 #[.val (.ref r0), .val (.int (1 : Int32)), .val (.double d2), .second, .val (.double d3), .second, .val (.double ub), .second, .unset, .unset, .unset, .unset] [(.double d2), (.double ub)])) _
    refine XS.dmulS X1.here hx rfl (hb hby d13_11) rfl hn0 rfl ?_
    show Steps p.tables e below (T1.setTop (mkF m 12 #[.val (.ref r0), .val (.int (1 : Int32)), .val (.double d2), .second, .val (.double d3), .second, .val (.double ub), .second, .unset, .unset, .unset, .unset] [(.double (FP.dmul ub d2))])) _
    refine XS.dstore X1.here hx rfl (hb hby d13_12) rfl (l' := #[.val (.ref r0), .val (.int (1 : Int32)), .val (.double d2), .second, .val (.double d3), .second, .val (.double ub), .second, .val (.double (FP.dmul ub d2)), .second, .unset, .unset]) rfl ?_
    show Steps p.tables e below (T1.setTop (mkF m 14 #[.val (.ref r0), .val (.int (1 : Int32)), .val (.double d2), .second, .val (.double d3), .second, .val (.double ub), .second, .val (.double (FP.dmul ub d2)), .second, .unset, .unset] [])) _
    refine XS.dload X1.here hx rfl (hb hby d13_14) rfl ?_
    show Steps p.tables e below (T1.setTop (mkF m 16 #[.val (.ref r0), .val (.int (1 : Int32)), .val (.double d2), .second, .val (.double d3), .second, .val (.double ub), .second, .val (.double (FP.dmul ub d2)), .second, .unset, .unset] [(.double ub)])) _
    refine XS.dloadN X1.here hx rfl (hb hby d13_16) rfl ?_
    show Steps p.tables e below (T1.setTop (mkF m 17 #[.val (.ref r0), .val (.int (1 : Int32)), .val (.double d2), .second, .val (.double d3), .second, .val (.double ub), .second, .val (.double (FP.dmul ub d2)), .second, .unset, .unset] [(.double d2), (.double ub)])) _
    refine XS.dload X1.here hx rfl (hb hby d13_17) rfl ?_
    show Steps p.tables e below (T1.setTop (mkF m 19 #[.val (.ref r0), .val (.int (1 : Int32)), .val (.double d2), .second, .val (.double d3), .second, .val (.double ub), .second, .val (.double (FP.dmul ub d2)), .second, .unset, .unset] [(.double (FP.dmul ub d2)), (.double d2), (.double ub)])) _
    refine st3 _ ?_
    show Steps p.tables e below (T3.setTop (mkF m 22 #[.val (.ref r0), .val (.int (1 : Int32)), .val (.double d2), .second, .val (.double d3), .second, .val (.double ub), .second, .val (.double (FP.dmul ub d2)), .second, .unset, .unset] [(.double (own_f4 ub d2 (FP.dmul ub d2)))])) _
    refine XS.dload X3.here hx rfl (hb hby d13_22) rfl ?_
    show Steps p.tables e below (T3.setTop (mkF m 24 #[.val (.ref r0), .val (.int (1 : Int32)), .val (.double d2), .second, .val (.double d3), .second, .val (.double ub), .second, .val (.double (FP.dmul ub d2)), .second, .unset, .unset] [(.double ub), (.double (own_f4 ub d2 (FP.dmul ub d2)))])) _
    refine XS.dload X3.here hx rfl (hb hby d13_24) rfl ?_
    show Steps p.tables e below (T3.setTop (mkF m 26 #[.val (.ref r0), .val (.int (1 : Int32)), .val (.double d2), .second, .val (.double d3), .second, .val (.double ub), .second, .val (.double (FP.dmul ub d2)), .second, .unset, .unset] [(.double d3), (.double ub), (.double (own_f4 ub d2 (FP.dmul ub d2)))])) _
    refine XS.dmulS X3.here hx rfl (hb hby d13_26) rfl hn2 rfl ?_
    show Steps p.tables e below (T3.setTop (mkF m 27 #[.val (.ref r0), .val (.int (1 : Int32)), .val (.double d2), .second, .val (.double d3), .second, .val (.double ub), .second, .val (.double (FP.dmul ub d2)), .second, .unset, .unset] [(.double (FP.dmul ub d3)), (.double (own_f4 ub d2 (FP.dmul ub d2)))])) _
    refine XS.aloadN X3.here hx rfl (hb hby d13_27) rfl rfl ?_
    show Steps p.tables e below (T3.setTop (mkF m 28 #[.val (.ref r0), .val (.int (1 : Int32)), .val (.double d2), .second, .val (.double d3), .second, .val (.double ub), .second, .val (.double (FP.dmul ub d2)), .second, .unset, .unset] [(.ref r0), (.double (FP.dmul ub d3)), (.double (own_f4 ub d2 (FP.dmul ub d2)))])) _
    refine st4 _ ?_
    show Steps p.tables e below (T4.setTop (mkF m 31 #[.val (.ref r0), .val (.int (1 : Int32)), .val (.double d2), .second, .val (.double d3), .second, .val (.double ub), .second, .val (.double (FP.dmul ub d2)), .second, .unset, .unset] [(.ref lA), (.double (FP.dmul ub d3)), (.double (own_f4 ub d2 (FP.dmul ub d2)))])) _
    refine XS.iloadN X4.here hx rfl (hb hby d13_31) rfl ?_
    show Steps p.tables e below (T4.setTop (mkF m 32 #[.val (.ref r0), .val (.int (1 : Int32)), .val (.double d2), .second, .val (.double d3), .second, .val (.double ub), .second, .val (.double (FP.dmul ub d2)), .second, .unset, .unset] [(.int (1 : Int32)), (.ref lA), (.double (FP.dmul ub d3)), (.double (own_f4 ub d2 (FP.dmul ub d2)))])) _
    refine X4.daload hx (j := (1 : Int32)) (v := (.double vb)) (by rw [e4]; exact Ar5.1) (State.isArrayOf_alike hZ.alike Ar5.2.1) Ar5.2.2 hin5 hat5 (g := (mkF m 32 #[.val (.ref r0), .val (.int (1 : Int32)), .val (.double d2), .second, .val (.double d3), .second, .val (.double ub), .second, .val (.double (FP.dmul ub d2)), .second, .unset, .unset] [(.int (1 : Int32)), (.ref lA), (.double (FP.dmul ub d3)), (.double (own_f4 ub d2 (FP.dmul ub d2)))])) rfl rfl (hb hby d13_32) _ ?_
    show Steps p.tables e below (T4.setTop (mkF m 33 #[.val (.ref r0), .val (.int (1 : Int32)), .val (.double d2), .second, .val (.double d3), .second, .val (.double ub), .second, .val (.double (FP.dmul ub d2)), .second, .unset, .unset] [(.double vb), (.double (FP.dmul ub d3)), (.double (own_f4 ub d2 (FP.dmul ub d2)))])) _
    refine XS.dloadN X4.here hx rfl (hb hby d13_33) rfl ?_
    show Steps p.tables e below (T4.setTop (mkF m 34 #[.val (.ref r0), .val (.int (1 : Int32)), .val (.double d2), .second, .val (.double d3), .second, .val (.double ub), .second, .val (.double (FP.dmul ub d2)), .second, .unset, .unset] [(.double d2), (.double vb), (.double (FP.dmul ub d3)), (.double (own_f4 ub d2 (FP.dmul ub d2)))])) _
    refine XS.dmulS X4.here hx rfl (hb hby d13_34) rfl hn3 rfl ?_
    show Steps p.tables e below (T4.setTop (mkF m 35 #[.val (.ref r0), .val (.int (1 : Int32)), .val (.double d2), .second, .val (.double d3), .second, .val (.double ub), .second, .val (.double (FP.dmul ub d2)), .second, .unset, .unset] [(.double (FP.dmul vb d2)), (.double (FP.dmul ub d3)), (.double (own_f4 ub d2 (FP.dmul ub d2)))])) _
    refine XS.daddS X4.here hx rfl (hb hby d13_35) rfl hn4 rfl ?_
    show Steps p.tables e below (T4.setTop (mkF m 36 #[.val (.ref r0), .val (.int (1 : Int32)), .val (.double d2), .second, .val (.double d3), .second, .val (.double ub), .second, .val (.double (FP.dmul ub d2)), .second, .unset, .unset] [(.double (FP.dadd (FP.dmul ub d3) (FP.dmul vb d2))), (.double (own_f4 ub d2 (FP.dmul ub d2)))])) _
    refine XS.daddS X4.here hx rfl (hb hby d13_36) rfl hn5 rfl ?_
    show Steps p.tables e below (T4.setTop (mkF m 37 #[.val (.ref r0), .val (.int (1 : Int32)), .val (.double d2), .second, .val (.double d3), .second, .val (.double ub), .second, .val (.double (FP.dmul ub d2)), .second, .unset, .unset] [(.double (FP.dadd (own_f4 ub d2 (FP.dmul ub d2)) (FP.dadd (FP.dmul ub d3) (FP.dmul vb d2))))])) _
    refine XS.dstore X4.here hx rfl (hb hby d13_37) rfl (l' := #[.val (.ref r0), .val (.int (1 : Int32)), .val (.double d2), .second, .val (.double d3), .second, .val (.double ub), .second, .val (.double (FP.dmul ub d2)), .second, .val (.double (FP.dadd (own_f4 ub d2 (FP.dmul ub d2)) (FP.dadd (FP.dmul ub d3) (FP.dmul vb d2)))), .second]) rfl ?_
    show Steps p.tables e below (T4.setTop (mkF m 39 #[.val (.ref r0), .val (.int (1 : Int32)), .val (.double d2), .second, .val (.double d3), .second, .val (.double ub), .second, .val (.double (FP.dmul ub d2)), .second, .val (.double (FP.dadd (own_f4 ub d2 (FP.dmul ub d2)) (FP.dadd (FP.dmul ub d3) (FP.dmul vb d2)))), .second] [])) _
    refine XS.aloadN X4.here hx rfl (hb hby d13_39) rfl rfl ?_
    show Steps p.tables e below (T4.setTop (mkF m 40 #[.val (.ref r0), .val (.int (1 : Int32)), .val (.double d2), .second, .val (.double d3), .second, .val (.double ub), .second, .val (.double (FP.dmul ub d2)), .second, .val (.double (FP.dadd (own_f4 ub d2 (FP.dmul ub d2)) (FP.dadd (FP.dmul ub d3) (FP.dmul vb d2)))), .second] [(.ref r0)])) _
    refine XS.iloadN X4.here hx rfl (hb hby d13_40) rfl ?_
    show Steps p.tables e below (T4.setTop (mkF m 41 #[.val (.ref r0), .val (.int (1 : Int32)), .val (.double d2), .second, .val (.double d3), .second, .val (.double ub), .second, .val (.double (FP.dmul ub d2)), .second, .val (.double (FP.dadd (own_f4 ub d2 (FP.dmul ub d2)) (FP.dadd (FP.dmul ub d3) (FP.dmul vb d2)))), .second] [(.int (1 : Int32)), (.ref r0)])) _
    refine XS.dload X4.here hx rfl (hb hby d13_41) rfl ?_
    show Steps p.tables e below (T4.setTop (mkF m 43 #[.val (.ref r0), .val (.int (1 : Int32)), .val (.double d2), .second, .val (.double d3), .second, .val (.double ub), .second, .val (.double (FP.dmul ub d2)), .second, .val (.double (FP.dadd (own_f4 ub d2 (FP.dmul ub d2)) (FP.dadd (FP.dmul ub d3) (FP.dmul vb d2)))), .second] [(.double (FP.dmul ub d2)), (.int (1 : Int32)), (.ref r0)])) _
    refine XS.dload X4.here hx rfl (hb hby d13_43) rfl ?_
    show Steps p.tables e below (T4.setTop (mkF m 45 #[.val (.ref r0), .val (.int (1 : Int32)), .val (.double d2), .second, .val (.double d3), .second, .val (.double ub), .second, .val (.double (FP.dmul ub d2)), .second, .val (.double (FP.dadd (own_f4 ub d2 (FP.dmul ub d2)) (FP.dadd (FP.dmul ub d3) (FP.dmul vb d2)))), .second] [(.double (FP.dadd (own_f4 ub d2 (FP.dmul ub d2)) (FP.dadd (FP.dmul ub d3) (FP.dmul vb d2)))), (.double (FP.dmul ub d2)), (.int (1 : Int32)), (.ref r0)])) _
    refine st6.trans ?_
    show Steps p.tables e below (T6.setTop (mkF m 48 #[.val (.ref r0), .val (.int (1 : Int32)), .val (.double d2), .second, .val (.double d3), .second, .val (.double ub), .second, .val (.double (FP.dmul ub d2)), .second, .val (.double (FP.dadd (own_f4 ub d2 (FP.dmul ub d2)) (FP.dadd (FP.dmul ub d3) (FP.dmul vb d2)))), .second] [])) _
    exact X6.returnOut hx Bd.returns (hb hby d13_48) hr
  · show Q_multiply_1 Z r0 d2 d3 hA lA kH kL ua ub va vb h0 n0 _ T6.heap _
    exact ⟨rfl, N6, kp11, Vh6, Vl6⟩
theorem d12_0 : decode prog_43_method_12_code 0 = .ok (.dconst 1, 1) := by decide +kernel
theorem d12_1 : decode prog_43_method_12_code 1 = .ok (.dload_n 2, 1) := by decide +kernel
theorem d12_2 : decode prog_43_method_12_code 2 = .ok (.dsub, 1) := by decide +kernel
theorem d12_3 : decode prog_43_method_12_code 3 = .ok (.dstore 6, 2) := by decide +kernel
theorem d12_5 : decode prog_43_method_12_code 5 = .ok (.dconst 1, 1) := by decide +kernel
theorem d12_6 : decode prog_43_method_12_code 6 = .ok (.dload_n 2, 1) := by decide +kernel
theorem d12_7 : decode prog_43_method_12_code 7 = .ok (.dneg, 1) := by decide +kernel
theorem d12_8 : decode prog_43_method_12_code 8 = .ok (.dload 6, 2) := by decide +kernel
theorem d12_10 : decode prog_43_method_12_code 10 = .ok (.invokestatic 30, 3) := by decide +kernel
theorem d12_13 : decode prog_43_method_12_code 13 = .ok (.dload 4, 2) := by decide +kernel
theorem d12_15 : decode prog_43_method_12_code 15 = .ok (.dsub, 1) := by decide +kernel
theorem d12_16 : decode prog_43_method_12_code 16 = .ok (.dstore 8, 2) := by decide +kernel
theorem d12_18 : decode prog_43_method_12_code 18 = .ok (.dload 6, 2) := by decide +kernel
theorem d12_20 : decode prog_43_method_12_code 20 = .ok (.dload 8, 2) := by decide +kernel
theorem d12_22 : decode prog_43_method_12_code 22 = .ok (.dadd, 1) := by decide +kernel
theorem d12_23 : decode prog_43_method_12_code 23 = .ok (.dstore 10, 2) := by decide +kernel
theorem d12_25 : decode prog_43_method_12_code 25 = .ok (.aload_n 0, 1) := by decide +kernel
theorem d12_26 : decode prog_43_method_12_code 26 = .ok (.iload_n 1, 1) := by decide +kernel
theorem d12_27 : decode prog_43_method_12_code 27 = .ok (.dload 10, 2) := by decide +kernel
theorem d12_29 : decode prog_43_method_12_code 29 = .ok (.dload 6, 2) := by decide +kernel
theorem d12_31 : decode prog_43_method_12_code 31 = .ok (.dload 8, 2) := by decide +kernel
theorem d12_33 : decode prog_43_method_12_code 33 = .ok (.dload 10, 2) := by decide +kernel
theorem d12_35 : decode prog_43_method_12_code 35 = .ok (.invokestatic 30, 3) := by decide +kernel
theorem d12_38 : decode prog_43_method_12_code 38 = .ok (.invokevirtual 33, 3) := by decide +kernel
theorem d12_41 : decode prog_43_method_12_code 41 = .ok (.return_, 1) := by decide +kernel
def ok12_0 (ua ub va vb d2 d3 : UInt64) : Prop := Jvm.Free.Fl.NoNaN64 (FP.dsub FP.dconst1 d2) ∧ ok6 FP.dconst1 (FP.dneg d2) (FP.dsub FP.dconst1 d2) ∧ Jvm.Free.Fl.NoNaN64 (FP.dsub (own_f6 FP.dconst1 (FP.dneg d2) (FP.dsub FP.dconst1 d2)) d3) ∧ Jvm.Free.Fl.NoNaN64 (FP.dadd (FP.dsub FP.dconst1 d2) (FP.dsub (own_f6 FP.dconst1 (FP.dneg d2) (FP.dsub FP.dconst1 d2)) d3)) ∧ ok6 (FP.dsub FP.dconst1 d2) (FP.dsub (own_f6 FP.dconst1 (FP.dneg d2) (FP.dsub FP.dconst1 d2)) d3) (FP.dadd (FP.dsub FP.dconst1 d2) (FP.dsub (own_f6 FP.dconst1 (FP.dneg d2) (FP.dsub FP.dconst1 d2)) d3)) ∧ ok13_0 ua ub va vb (FP.dadd (FP.dsub FP.dconst1 d2) (FP.dsub (own_f6 FP.dconst1 (FP.dneg d2) (FP.dsub FP.dconst1 d2)) d3)) (own_f6 (FP.dsub FP.dconst1 d2) (FP.dsub (own_f6 FP.dconst1 (FP.dneg d2) (FP.dsub FP.dconst1 d2)) d3) (FP.dadd (FP.dsub FP.dconst1 d2) (FP.dsub (own_f6 FP.dconst1 (FP.dneg d2) (FP.dsub FP.dconst1 d2)) d3))) ∧ True
def Q_multiplyByComplement_0 (Z : State) (r0 : Addr) (d2 : UInt64) (d3 : UInt64) (hA lA : Addr) (kH kL : ClassId) (ua ub va vb : UInt64) (h0 : Heap) (n0 : Nat) (v : Option Value) (h : Heap) (L : List Loc) : Prop := v = none ∧ Fr n0 L ∧ Keep h0 h [hA, lA] ∧ Arv Z h hA kH .double (2 : Int32) [(.double (own_ch ua va d2 d3)), (.double ub)] (.double 0) ∧ Arv Z h lA kL .double (2 : Int32) [(.double (own_cl ua va d2 d3)), (.double vb)] (.double 0)
theorem ef_rm_multiplyByComplement_0 (m : MethodId) (x0 : Addr) (x1 : Int32) (x2 : UInt64) (x3 : UInt64) : entryFrame m #[(.ref x0), (.int x1), (.double x2), (.double x3)] 12 = mkF m 0 #[.val (.ref x0), .val (.int x1), .val (.double x2), .second, .val (.double x3), .second, .unset, .unset, .unset, .unset, .unset, .unset] [] := by first | (simp [entryFrame, mkF, argsToLocals, Value.category]; done) | rfl
set_option maxRecDepth 65536 in
set_option maxHeartbeats 40000000 in
theorem rm_multiplyByComplement_0 (l : Launch) (Z : State) (a0 : Array Value) (hw : ∀ d ∈ tables_1, d.before a0 Z = true) (ws : List Jvm.Cond) (r0 : Addr) (d2 : UInt64) (d3 : UInt64) (hA lA : Addr) (kH kL : ClassId) (ua ub va vb : UInt64) (h0 : Heap) (n0 : Nat) (Z0 : n0 ≤ h0.size) (E0 : Exa Z h0 r0 "com/example/degree/degree/retrieval/DoubleDoubles") (Fh : Fld Z h0 r0 "com/example/degree/degree/retrieval/DoubleDoubles" "high" "[D" (.ref hA)) (Fl : Fld Z h0 r0 "com/example/degree/degree/retrieval/DoubleDoubles" "low" "[D" (.ref lA)) (Ah : Arv Z h0 hA kH .double (2 : Int32) [(.double ua), (.double ub)] (.double 0)) (Al : Arv Z h0 lA kL .double (2 : Int32) [(.double va), (.double vb)] (.double 0)) (g_hA : n0 ≤ hA) (g_lA : n0 ≤ lA) (hne : hA ≠ lA) (hz1 : r0 ≠ hA) (hz2 : r0 ≠ lA) (hok : ok12_0 ua ub va vb d2 d3) :
    MetFree l (⟨"com/example/degree/degree/retrieval/DoubleDoubles", "multiplyByComplement", "(IDD)V"⟩ : MethodName) (head1 (Jvm.Cond.code (⟨"com/example/degree/degree/retrieval/DoubleDoubles", "multiplyByComplement", "(IDD)V"⟩ : MethodName) prog_43_method_12_code 12 none :: ws) ({ frames := 3, cells := 0, slots := 0, locals := 65 } : Room)) (fun a U => a = #[(.ref r0), (.int (0 : Int32)), (.double d2), (.double d3)] ∧ Z.Warmed39 U.vm ∧ U.heap = h0) (fun _ _ _ _ _ => True) (fun _ U o U' => ∃ v L, o = .returned v ∧ Q_multiplyByComplement_0 Z r0 d2 d3 hA lA kH kL ua ub va vb h0 n0 v U'.heap L ∧ FrameEnd U o U' L ({ frames := 3, cells := 0, slots := 0, locals := 65 } : Room).cells ({ frames := 3, cells := 0, slots := 0, locals := 65 } : Room).slots) := by
  refine MetFree.of_bodySF (plainFor_of_name pnc_com_example_degree_degree_retrieval_DoubleDoubles) hisR ?_
  intro p e s m args below meth c s₁ Bd hml0 hP hK
  obtain ⟨rfl, hZ, hh⟩ := hP
  have hx := Bd.exec
  have hby := Bd.bytes
  have hml : c.maxLocals = 12 := hml0
  have hown : s.vm.findClass "com/example/degree/degree/retrieval/DoubleDoubles" = some m.cls := findClass_of_methodNamed Bd.named
  have hnm := (name_of_methodNamed Bd.named Bd.method).1
  have X0 : Stand p l e ({ frames := 3, cells := 0, slots := 0, locals := 65 } : Room) s m #[(.ref r0), (.int (0 : Int32)), (.double d2), (.double d3)] below meth c s₁ [] 0 0 := Stand.of_body Bd
  have e0 : s₁.heap = h0 := by rw [← hh, Bd.state]; rfl
  have N0 := Fr.nil n0
  have kp0 : Keep h0 h0 [hA, lA] := Keep.refl _ _
  have G0 : ∀ t, Steps p.tables e below (s₁.setTop (mkF m 0 #[.val (.ref r0), .val (.int (0 : Int32)), .val (.double d2), .second, .val (.double d3), .second, .unset, .unset, .unset, .unset, .unset, .unset] [])) t → Steps p.tables e below (s₁.setTop (entryFrame m #[(.ref r0), (.int (0 : Int32)), (.double d2), (.double d3)] 12)) t := fun t k => castTop (ef_rm_multiplyByComplement_0 m r0 (0 : Int32) d2 d3) k
  obtain ⟨hn0, hn1, hn2, hn3, hn4, hn5, -⟩ := hok
  obtain ⟨_, _, ⟨T1, L1, k1, n1⟩, -, X1, ⟨Lc1, hQ1, l1, y1, z1⟩, st1⟩ := Jvm.LawKit.callS X0 hx (y := (⟨"com/example/degree/degree/retrieval/DoubleDoubles", "twoSumError", "(DDD)D"⟩ : MethodName)) hown (mvT hZ (hq hw 30 rfl)) (mvT hZ (hq hw 31 rfl)) (mvT hZ (hq hw 5 rfl)) (mvT hZ (hq hw 32 rfl)) (by decide) (backOf (W := 0) (rm6 l Z a0 hw [] FP.dconst1 (FP.dneg d2) (FP.dsub FP.dconst1 d2)  h0 n0 Z0 hn1) hZ (hq hw 32 rfl) (hq hw 5 rfl) (by decide) (by decide)) (g := (mkF m 10 #[.val (.ref r0), .val (.int (0 : Int32)), .val (.double d2), .second, .val (.double d3), .second, .val (.double (FP.dsub FP.dconst1 d2)), .second, .unset, .unset, .unset, .unset] [(.double (FP.dsub FP.dconst1 d2)), (.double (FP.dneg d2)), (.double FP.dconst1)])) rfl (by rw [hml]; rfl) (argsL := [(.double FP.dconst1), (.double (FP.dneg d2)), (.double (FP.dsub FP.dconst1 d2))]) (rest := []) (lenOf pd_0 rfl) rfl (by show 2 * 0 + _ ≤ _; exact Nat.le_of_eq rfl) (hb hby d12_10) (fun _ _ => ⟨rfl, e0, (by decide : 0 + 0 ≤ _), (by decide : 0 + 0 ≤ _)⟩)
  dsimp only [Pt.U, Pt.locs, Pt.cells, Pt.slots] at X1 l1 y1 z1 st1 hQ1
  subst l1 y1 z1
  obtain ⟨rfl, N1q, eh1⟩ := hQ1
  have N1 := Fr.app N0 N1q
  obtain ⟨_, _, ⟨T2, L2, k2, n2⟩, -, X2, ⟨Lc2, hQ2, l2, y2, z2⟩, st2⟩ := Jvm.LawKit.callS X1 hx (y := (⟨"com/example/degree/degree/retrieval/DoubleDoubles", "twoSumError", "(DDD)D"⟩ : MethodName)) hown (mvT hZ (hq hw 30 rfl)) (mvT hZ (hq hw 31 rfl)) (mvT hZ (hq hw 5 rfl)) (mvT hZ (hq hw 32 rfl)) (by decide) (backOf (W := 4) (rm6 l Z a0 hw [] (FP.dsub FP.dconst1 d2) (FP.dsub (own_f6 FP.dconst1 (FP.dneg d2) (FP.dsub FP.dconst1 d2)) d3) (FP.dadd (FP.dsub FP.dconst1 d2) (FP.dsub (own_f6 FP.dconst1 (FP.dneg d2) (FP.dsub FP.dconst1 d2)) d3))  h0 n0 Z0 hn4) hZ (hq hw 32 rfl) (hq hw 5 rfl) (by decide) (by decide)) (g := (mkF m 35 #[.val (.ref r0), .val (.int (0 : Int32)), .val (.double d2), .second, .val (.double d3), .second, .val (.double (FP.dsub FP.dconst1 d2)), .second, .val (.double (FP.dsub (own_f6 FP.dconst1 (FP.dneg d2) (FP.dsub FP.dconst1 d2)) d3)), .second, .val (.double (FP.dadd (FP.dsub FP.dconst1 d2) (FP.dsub (own_f6 FP.dconst1 (FP.dneg d2) (FP.dsub FP.dconst1 d2)) d3))), .second] [(.double (FP.dadd (FP.dsub FP.dconst1 d2) (FP.dsub (own_f6 FP.dconst1 (FP.dneg d2) (FP.dsub FP.dconst1 d2)) d3))), (.double (FP.dsub (own_f6 FP.dconst1 (FP.dneg d2) (FP.dsub FP.dconst1 d2)) d3)), (.double (FP.dsub FP.dconst1 d2)), (.double (FP.dadd (FP.dsub FP.dconst1 d2) (FP.dsub (own_f6 FP.dconst1 (FP.dneg d2) (FP.dsub FP.dconst1 d2)) d3))), (.int (0 : Int32)), (.ref r0)])) rfl (by rw [hml]; rfl) (argsL := [(.double (FP.dsub FP.dconst1 d2)), (.double (FP.dsub (own_f6 FP.dconst1 (FP.dneg d2) (FP.dsub FP.dconst1 d2)) d3)), (.double (FP.dadd (FP.dsub FP.dconst1 d2) (FP.dsub (own_f6 FP.dconst1 (FP.dneg d2) (FP.dsub FP.dconst1 d2)) d3)))]) (rest := [(.double (FP.dadd (FP.dsub FP.dconst1 d2) (FP.dsub (own_f6 FP.dconst1 (FP.dneg d2) (FP.dsub FP.dconst1 d2)) d3))), (.int (0 : Int32)), (.ref r0)]) (lenOf pd_0 rfl) rfl (by show 2 * 0 + _ ≤ _; exact Nat.le_of_eq rfl) (hb hby d12_35) (fun _ _ => ⟨rfl, eh1, (by decide : 0 + 0 ≤ _), (by decide : 0 + 0 ≤ _)⟩)
  dsimp only [Pt.U, Pt.locs, Pt.cells, Pt.slots] at X2 l2 y2 z2 st2 hQ2
  subst l2 y2 z2
  obtain ⟨rfl, N2q, eh2⟩ := hQ2
  have N2 := Fr.app N1 N2q
  obtain ⟨cq3, q3, q3'⟩ := E0.cell
  obtain ⟨_, _, ⟨T3, L3, k3, n3⟩, -, X3, ⟨Lc3, hQ3, l3, y3, z3⟩, st3⟩ := X2.privateBack hx (y := (⟨"com/example/degree/degree/retrieval/DoubleDoubles", "multiply", "(IDD)V"⟩ : MethodName)) hown (mvT hZ (hq hw 61 rfl)) (mvT hZ (hq hw 62 rfl)) (own_selp (mvT hZ (hq hw 4 rfl)) (mvT hZ (hq hw 62 rfl)) (mvP hZ (hq hw 63 rfl)) (by decide)) (Cond.privateMethod_at (mvP hZ (hq hw 63 rfl) (args := #[]))) (mvT hZ (hq hw 64 rfl)) (by decide) (backOf (W := 0) (rm_multiply_0 l Z a0 hw [] r0 (FP.dadd (FP.dsub FP.dconst1 d2) (FP.dsub (own_f6 FP.dconst1 (FP.dneg d2) (FP.dsub FP.dconst1 d2)) d3)) (own_f6 (FP.dsub FP.dconst1 d2) (FP.dsub (own_f6 FP.dconst1 (FP.dneg d2) (FP.dsub FP.dconst1 d2)) d3) (FP.dadd (FP.dsub FP.dconst1 d2) (FP.dsub (own_f6 FP.dconst1 (FP.dneg d2) (FP.dsub FP.dconst1 d2)) d3))) hA lA kH kL ua ub va vb h0 n0 Z0 E0 Fh Fl Ah Al g_hA g_lA hne hz1 hz2 hn5) hZ (hq hw 64 rfl) (hq hw 5 rfl) (by decide) (by decide)) (g := (mkF m 38 #[.val (.ref r0), .val (.int (0 : Int32)), .val (.double d2), .second, .val (.double d3), .second, .val (.double (FP.dsub FP.dconst1 d2)), .second, .val (.double (FP.dsub (own_f6 FP.dconst1 (FP.dneg d2) (FP.dsub FP.dconst1 d2)) d3)), .second, .val (.double (FP.dadd (FP.dsub FP.dconst1 d2) (FP.dsub (own_f6 FP.dconst1 (FP.dneg d2) (FP.dsub FP.dconst1 d2)) d3))), .second] [(.double (own_f6 (FP.dsub FP.dconst1 d2) (FP.dsub (own_f6 FP.dconst1 (FP.dneg d2) (FP.dsub FP.dconst1 d2)) d3) (FP.dadd (FP.dsub FP.dconst1 d2) (FP.dsub (own_f6 FP.dconst1 (FP.dneg d2) (FP.dsub FP.dconst1 d2)) d3)))), (.double (FP.dadd (FP.dsub FP.dconst1 d2) (FP.dsub (own_f6 FP.dconst1 (FP.dneg d2) (FP.dsub FP.dconst1 d2)) d3))), (.int (0 : Int32)), (.ref r0)])) rfl (by rw [hml]; rfl) (Steps.refl _) (a := r0) (by rw [eh2]; exact q3) q3' (argsL := [(.int (0 : Int32)), (.double (FP.dadd (FP.dsub FP.dconst1 d2) (FP.dsub (own_f6 FP.dconst1 (FP.dneg d2) (FP.dsub FP.dconst1 d2)) d3))), (.double (own_f6 (FP.dsub FP.dconst1 d2) (FP.dsub (own_f6 FP.dconst1 (FP.dneg d2) (FP.dsub FP.dconst1 d2)) d3) (FP.dadd (FP.dsub FP.dconst1 d2) (FP.dsub (own_f6 FP.dconst1 (FP.dneg d2) (FP.dsub FP.dconst1 d2)) d3))))]) (rest := []) (lenOf pd_1 rfl) rfl (by show 2 * 0 + _ ≤ _; exact Nat.le_of_eq rfl) (hb hby d12_38) (fun _ _ => ⟨rfl, eh2, (by decide : 0 + 0 ≤ _), (by decide : 0 + 0 ≤ _)⟩)
  dsimp only [Pt.U, Pt.locs, Pt.cells, Pt.slots] at X3 l3 y3 z3 st3 hQ3
  subst l3 y3 z3
  obtain ⟨rfl, N3q, K3, Vh3, Vl3⟩ := hQ3
  have N3 := Fr.app N2 N3q
  have fa4 := E0.keep K3
  have fa5 := Fh.keep K3 (ninS hz1 (ninS hz2 nin0))
  have fa6 := Fl.keep K3 (ninS hz1 (ninS hz2 nin0))
  have z7 : n0 ≤ T3.heap.size := Nat.le_trans Z0 K3.1
  have kp8 : Keep h0 T3.heap [hA, lA] := kp0.trans K3 (allS (Or.inl (List.mem_of_getElem? (i := 0) rfl)) (allS (Or.inl (List.mem_of_getElem? (i := 1) rfl)) all0))
  obtain ⟨fs, hr, hrun, hended, hW, hsame⟩ := X3.leave (v := none) (fun _ => rfl)
  refine ⟨_, _, G0 _ ?_, hrun, hended, _, _, rfl, ?_, ⟨_, rfl⟩, hW, hsame.mono (by decide) (by decide)⟩
  · skip
    show Steps p.tables e below (s₁.setTop (mkF m 0 #[.val (.ref r0), .val (.int (0 : Int32)), .val (.double d2), .second, .val (.double d3), .second, .unset, .unset, .unset, .unset, .unset, .unset] [])) _
    refine XS.dconst1 X0.here hx rfl (hb hby d12_0) rfl ?_
    show Steps p.tables e below (s₁.setTop (mkF m 1 #[.val (.ref r0), .val (.int (0 : Int32)), .val (.double d2), .second, .val (.double d3), .second, .unset, .unset, .unset, .unset, .unset, .unset] [(.double FP.dconst1)])) _
    refine XS.dloadN X0.here hx rfl (hb hby d12_1) rfl ?_
    show Steps p.tables e below (s₁.setTop (mkF m 2 #[.val (.ref r0), .val (.int (0 : Int32)), .val (.double d2), .second, .val (.double d3), .second, .unset, .unset, .unset, .unset, .unset, .unset] [(.double d2), (.double FP.dconst1)])) _
    refine XS.dsubS X0.here hx rfl (hb hby d12_2) rfl hn0 rfl ?_
    show Steps p.tables e below (s₁.setTop (mkF m 3 #[.val (.ref r0), .val (.int (0 : Int32)), .val (.double d2), .second, .val (.double d3), .second, .unset, .unset, .unset, .unset, .unset, .unset] [(.double (FP.dsub FP.dconst1 d2))])) _
    refine XS.dstore X0.here hx rfl (hb hby d12_3) rfl (l' := #[.val (.ref r0), .val (.int (0 : Int32)), .val (.double d2), .second, .val (.double d3), .second, .val (.double (FP.dsub FP.dconst1 d2)), .second, .unset, .unset, .unset, .unset]) rfl ?_
    show Steps p.tables e below (s₁.setTop (mkF m 5 #[.val (.ref r0), .val (.int (0 : Int32)), .val (.double d2), .second, .val (.double d3), .second, .val (.double (FP.dsub FP.dconst1 d2)), .second, .unset, .unset, .unset, .unset] [])) _
    refine XS.dconst1 X0.here hx rfl (hb hby d12_5) rfl ?_
    show Steps p.tables e below (s₁.setTop (mkF m 6 #[.val (.ref r0), .val (.int (0 : Int32)), .val (.double d2), .second, .val (.double d3), .second, .val (.double (FP.dsub FP.dconst1 d2)), .second, .unset, .unset, .unset, .unset] [(.double FP.dconst1)])) _
    refine XS.dloadN X0.here hx rfl (hb hby d12_6) rfl ?_
    show Steps p.tables e below (s₁.setTop (mkF m 7 #[.val (.ref r0), .val (.int (0 : Int32)), .val (.double d2), .second, .val (.double d3), .second, .val (.double (FP.dsub FP.dconst1 d2)), .second, .unset, .unset, .unset, .unset] [(.double d2), (.double FP.dconst1)])) _
    refine XS.dnegS X0.here hx rfl (hb hby d12_7) rfl rfl ?_
    show Steps p.tables e below (s₁.setTop (mkF m 8 #[.val (.ref r0), .val (.int (0 : Int32)), .val (.double d2), .second, .val (.double d3), .second, .val (.double (FP.dsub FP.dconst1 d2)), .second, .unset, .unset, .unset, .unset] [(.double (FP.dneg d2)), (.double FP.dconst1)])) _
    refine XS.dload X0.here hx rfl (hb hby d12_8) rfl ?_
    show Steps p.tables e below (s₁.setTop (mkF m 10 #[.val (.ref r0), .val (.int (0 : Int32)), .val (.double d2), .second, .val (.double d3), .second, .val (.double (FP.dsub FP.dconst1 d2)), .second, .unset, .unset, .unset, .unset] [(.double (FP.dsub FP.dconst1 d2)), (.double (FP.dneg d2)), (.double FP.dconst1)])) _
    refine st1 _ ?_
    show Steps p.tables e below (T1.setTop (mkF m 13 #[.val (.ref r0), .val (.int (0 : Int32)), .val (.double d2), .second, .val (.double d3), .second, .val (.double (FP.dsub FP.dconst1 d2)), .second, .unset, .unset, .unset, .unset] [(.double (own_f6 FP.dconst1 (FP.dneg d2) (FP.dsub FP.dconst1 d2)))])) _
    refine XS.dload X1.here hx rfl (hb hby d12_13) rfl ?_
    show Steps p.tables e below (T1.setTop (mkF m 15 #[.val (.ref r0), .val (.int (0 : Int32)), .val (.double d2), .second, .val (.double d3), .second, .val (.double (FP.dsub FP.dconst1 d2)), .second, .unset, .unset, .unset, .unset] [(.double d3), (.double (own_f6 FP.dconst1 (FP.dneg d2) (FP.dsub FP.dconst1 d2)))])) _
    refine XS.dsubS X1.here hx rfl (hb hby d12_15) rfl hn2 rfl ?_
    show Steps p.tables e below (T1.setTop (mkF m 16 #[.val (.ref r0), .val (.int (0 : Int32)), .val (.double d2), .second, .val (.double d3), .second, .val (.double (FP.dsub FP.dconst1 d2)), .second, .unset, .unset, .unset, .unset] [(.double (FP.dsub (own_f6 FP.dconst1 (FP.dneg d2) (FP.dsub FP.dconst1 d2)) d3))])) _
    refine XS.dstore X1.here hx rfl (hb hby d12_16) rfl (l' := #[.val (.ref r0), .val (.int (0 : Int32)), .val (.double d2), .second, .val (.double d3), .second, .val (.double (FP.dsub FP.dconst1 d2)), .second, .val (.double (FP.dsub (own_f6 FP.dconst1 (FP.dneg d2) (FP.dsub FP.dconst1 d2)) d3)), .second, .unset, .unset]) rfl ?_
    show Steps p.tables e below (T1.setTop (mkF m 18 #[.val (.ref r0), .val (.int (0 : Int32)), .val (.double d2), .second, .val (.double d3), .second, .val (.double (FP.dsub FP.dconst1 d2)), .second, .val (.double (FP.dsub (own_f6 FP.dconst1 (FP.dneg d2) (FP.dsub FP.dconst1 d2)) d3)), .second, .unset, .unset] [])) _
    refine XS.dload X1.here hx rfl (hb hby d12_18) rfl ?_
    show Steps p.tables e below (T1.setTop (mkF m 20 #[.val (.ref r0), .val (.int (0 : Int32)), .val (.double d2), .second, .val (.double d3), .second, .val (.double (FP.dsub FP.dconst1 d2)), .second, .val (.double (FP.dsub (own_f6 FP.dconst1 (FP.dneg d2) (FP.dsub FP.dconst1 d2)) d3)), .second, .unset, .unset] [(.double (FP.dsub FP.dconst1 d2))])) _
    refine XS.dload X1.here hx rfl (hb hby d12_20) rfl ?_
    show Steps p.tables e below (T1.setTop (mkF m 22 #[.val (.ref r0), .val (.int (0 : Int32)), .val (.double d2), .second, .val (.double d3), .second, .val (.double (FP.dsub FP.dconst1 d2)), .second, .val (.double (FP.dsub (own_f6 FP.dconst1 (FP.dneg d2) (FP.dsub FP.dconst1 d2)) d3)), .second, .unset, .unset] [(.double (FP.dsub (own_f6 FP.dconst1 (FP.dneg d2) (FP.dsub FP.dconst1 d2)) d3)), (.double (FP.dsub FP.dconst1 d2))])) _
    refine XS.daddS X1.here hx rfl (hb hby d12_22) rfl hn3 rfl ?_
    show Steps p.tables e below (T1.setTop (mkF m 23 #[.val (.ref r0), .val (.int (0 : Int32)), .val (.double d2), .second, .val (.double d3), .second, .val (.double (FP.dsub FP.dconst1 d2)), .second, .val (.double (FP.dsub (own_f6 FP.dconst1 (FP.dneg d2) (FP.dsub FP.dconst1 d2)) d3)), .second, .unset, .unset] [(.double (FP.dadd (FP.dsub FP.dconst1 d2) (FP.dsub (own_f6 FP.dconst1 (FP.dneg d2) (FP.dsub FP.dconst1 d2)) d3)))])) _
    refine XS.dstore X1.here hx rfl (hb hby d12_23) rfl (l' := #[.val (.ref r0), .val (.int (0 : Int32)), .val (.double d2), .second, .val (.double d3), .second, .val (.double (FP.dsub FP.dconst1 d2)), .second, .val (.double (FP.dsub (own_f6 FP.dconst1 (FP.dneg d2) (FP.dsub FP.dconst1 d2)) d3)), .second, .val (.double (FP.dadd (FP.dsub FP.dconst1 d2) (FP.dsub (own_f6 FP.dconst1 (FP.dneg d2) (FP.dsub FP.dconst1 d2)) d3))), .second]) rfl ?_
    show Steps p.tables e below (T1.setTop (mkF m 25 #[.val (.ref r0), .val (.int (0 : Int32)), .val (.double d2), .second, .val (.double d3), .second, .val (.double (FP.dsub FP.dconst1 d2)), .second, .val (.double (FP.dsub (own_f6 FP.dconst1 (FP.dneg d2) (FP.dsub FP.dconst1 d2)) d3)), .second, .val (.double (FP.dadd (FP.dsub FP.dconst1 d2) (FP.dsub (own_f6 FP.dconst1 (FP.dneg d2) (FP.dsub FP.dconst1 d2)) d3))), .second] [])) _
    refine XS.aloadN X1.here hx rfl (hb hby d12_25) rfl rfl ?_
    show Steps p.tables e below (T1.setTop (mkF m 26 #[.val (.ref r0), .val (.int (0 : Int32)), .val (.double d2), .second, .val (.double d3), .second, .val (.double (FP.dsub FP.dconst1 d2)), .second, .val (.double (FP.dsub (own_f6 FP.dconst1 (FP.dneg d2) (FP.dsub FP.dconst1 d2)) d3)), .second, .val (.double (FP.dadd (FP.dsub FP.dconst1 d2) (FP.dsub (own_f6 FP.dconst1 (FP.dneg d2) (FP.dsub FP.dconst1 d2)) d3))), .second] [(.ref r0)])) _
    refine XS.iloadN X1.here hx rfl (hb hby d12_26) rfl ?_
    show Steps p.tables e below (T1.setTop (mkF m 27 #[.val (.ref r0), .val (.int (0 : Int32)), .val (.double d2), .second, .val (.double d3), .second, .val (.double (FP.dsub FP.dconst1 d2)), .second, .val (.double (FP.dsub (own_f6 FP.dconst1 (FP.dneg d2) (FP.dsub FP.dconst1 d2)) d3)), .second, .val (.double (FP.dadd (FP.dsub FP.dconst1 d2) (FP.dsub (own_f6 FP.dconst1 (FP.dneg d2) (FP.dsub FP.dconst1 d2)) d3))), .second] [(.int (0 : Int32)), (.ref r0)])) _
    refine XS.dload X1.here hx rfl (hb hby d12_27) rfl ?_
    show Steps p.tables e below (T1.setTop (mkF m 29 #[.val (.ref r0), .val (.int (0 : Int32)), .val (.double d2), .second, .val (.double d3), .second, .val (.double (FP.dsub FP.dconst1 d2)), .second, .val (.double (FP.dsub (own_f6 FP.dconst1 (FP.dneg d2) (FP.dsub FP.dconst1 d2)) d3)), .second, .val (.double (FP.dadd (FP.dsub FP.dconst1 d2) (FP.dsub (own_f6 FP.dconst1 (FP.dneg d2) (FP.dsub FP.dconst1 d2)) d3))), .second] [(.double (FP.dadd (FP.dsub FP.dconst1 d2) (FP.dsub (own_f6 FP.dconst1 (FP.dneg d2) (FP.dsub FP.dconst1 d2)) d3))), (.int (0 : Int32)), (.ref r0)])) _
    refine XS.dload X1.here hx rfl (hb hby d12_29) rfl ?_
    show Steps p.tables e below (T1.setTop (mkF m 31 #[.val (.ref r0), .val (.int (0 : Int32)), .val (.double d2), .second, .val (.double d3), .second, .val (.double (FP.dsub FP.dconst1 d2)), .second, .val (.double (FP.dsub (own_f6 FP.dconst1 (FP.dneg d2) (FP.dsub FP.dconst1 d2)) d3)), .second, .val (.double (FP.dadd (FP.dsub FP.dconst1 d2) (FP.dsub (own_f6 FP.dconst1 (FP.dneg d2) (FP.dsub FP.dconst1 d2)) d3))), .second] [(.double (FP.dsub FP.dconst1 d2)), (.double (FP.dadd (FP.dsub FP.dconst1 d2) (FP.dsub (own_f6 FP.dconst1 (FP.dneg d2) (FP.dsub FP.dconst1 d2)) d3))), (.int (0 : Int32)), (.ref r0)])) _
    refine XS.dload X1.here hx rfl (hb hby d12_31) rfl ?_
    show Steps p.tables e below (T1.setTop (mkF m 33 #[.val (.ref r0), .val (.int (0 : Int32)), .val (.double d2), .second, .val (.double d3), .second, .val (.double (FP.dsub FP.dconst1 d2)), .second, .val (.double (FP.dsub (own_f6 FP.dconst1 (FP.dneg d2) (FP.dsub FP.dconst1 d2)) d3)), .second, .val (.double (FP.dadd (FP.dsub FP.dconst1 d2) (FP.dsub (own_f6 FP.dconst1 (FP.dneg d2) (FP.dsub FP.dconst1 d2)) d3))), .second] [(.double (FP.dsub (own_f6 FP.dconst1 (FP.dneg d2) (FP.dsub FP.dconst1 d2)) d3)), (.double (FP.dsub FP.dconst1 d2)), (.double (FP.dadd (FP.dsub FP.dconst1 d2) (FP.dsub (own_f6 FP.dconst1 (FP.dneg d2) (FP.dsub FP.dconst1 d2)) d3))), (.int (0 : Int32)), (.ref r0)])) _
    refine XS.dload X1.here hx rfl (hb hby d12_33) rfl ?_
    show Steps p.tables e below (T1.setTop (mkF m 35 #[.val (.ref r0), .val (.int (0 : Int32)), .val (.double d2), .second, .val (.double d3), .second, .val (.double (FP.dsub FP.dconst1 d2)), .second, .val (.double (FP.dsub (own_f6 FP.dconst1 (FP.dneg d2) (FP.dsub FP.dconst1 d2)) d3)), .second, .val (.double (FP.dadd (FP.dsub FP.dconst1 d2) (FP.dsub (own_f6 FP.dconst1 (FP.dneg d2) (FP.dsub FP.dconst1 d2)) d3))), .second] [(.double (FP.dadd (FP.dsub FP.dconst1 d2) (FP.dsub (own_f6 FP.dconst1 (FP.dneg d2) (FP.dsub FP.dconst1 d2)) d3))), (.double (FP.dsub (own_f6 FP.dconst1 (FP.dneg d2) (FP.dsub FP.dconst1 d2)) d3)), (.double (FP.dsub FP.dconst1 d2)), (.double (FP.dadd (FP.dsub FP.dconst1 d2) (FP.dsub (own_f6 FP.dconst1 (FP.dneg d2) (FP.dsub FP.dconst1 d2)) d3))), (.int (0 : Int32)), (.ref r0)])) _
    refine st2 _ ?_
    show Steps p.tables e below (T2.setTop (mkF m 38 #[.val (.ref r0), .val (.int (0 : Int32)), .val (.double d2), .second, .val (.double d3), .second, .val (.double (FP.dsub FP.dconst1 d2)), .second, .val (.double (FP.dsub (own_f6 FP.dconst1 (FP.dneg d2) (FP.dsub FP.dconst1 d2)) d3)), .second, .val (.double (FP.dadd (FP.dsub FP.dconst1 d2) (FP.dsub (own_f6 FP.dconst1 (FP.dneg d2) (FP.dsub FP.dconst1 d2)) d3))), .second] [(.double (own_f6 (FP.dsub FP.dconst1 d2) (FP.dsub (own_f6 FP.dconst1 (FP.dneg d2) (FP.dsub FP.dconst1 d2)) d3) (FP.dadd (FP.dsub FP.dconst1 d2) (FP.dsub (own_f6 FP.dconst1 (FP.dneg d2) (FP.dsub FP.dconst1 d2)) d3)))), (.double (FP.dadd (FP.dsub FP.dconst1 d2) (FP.dsub (own_f6 FP.dconst1 (FP.dneg d2) (FP.dsub FP.dconst1 d2)) d3))), (.int (0 : Int32)), (.ref r0)])) _
    refine st3.trans ?_
    show Steps p.tables e below (T3.setTop (mkF m 41 #[.val (.ref r0), .val (.int (0 : Int32)), .val (.double d2), .second, .val (.double d3), .second, .val (.double (FP.dsub FP.dconst1 d2)), .second, .val (.double (FP.dsub (own_f6 FP.dconst1 (FP.dneg d2) (FP.dsub FP.dconst1 d2)) d3)), .second, .val (.double (FP.dadd (FP.dsub FP.dconst1 d2) (FP.dsub (own_f6 FP.dconst1 (FP.dneg d2) (FP.dsub FP.dconst1 d2)) d3))), .second] [])) _
    exact X3.returnOut hx Bd.returns (hb hby d12_41) hr
  · show Q_multiplyByComplement_0 Z r0 d2 d3 hA lA kH kL ua ub va vb h0 n0 _ T3.heap _
    exact ⟨rfl, N3, kp8, Vh3, Vl3⟩
def ok12_1 (ua ub va vb d2 d3 : UInt64) : Prop := Jvm.Free.Fl.NoNaN64 (FP.dsub FP.dconst1 d2) ∧ ok6 FP.dconst1 (FP.dneg d2) (FP.dsub FP.dconst1 d2) ∧ Jvm.Free.Fl.NoNaN64 (FP.dsub (own_f6 FP.dconst1 (FP.dneg d2) (FP.dsub FP.dconst1 d2)) d3) ∧ Jvm.Free.Fl.NoNaN64 (FP.dadd (FP.dsub FP.dconst1 d2) (FP.dsub (own_f6 FP.dconst1 (FP.dneg d2) (FP.dsub FP.dconst1 d2)) d3)) ∧ ok6 (FP.dsub FP.dconst1 d2) (FP.dsub (own_f6 FP.dconst1 (FP.dneg d2) (FP.dsub FP.dconst1 d2)) d3) (FP.dadd (FP.dsub FP.dconst1 d2) (FP.dsub (own_f6 FP.dconst1 (FP.dneg d2) (FP.dsub FP.dconst1 d2)) d3)) ∧ ok13_1 ua ub va vb (FP.dadd (FP.dsub FP.dconst1 d2) (FP.dsub (own_f6 FP.dconst1 (FP.dneg d2) (FP.dsub FP.dconst1 d2)) d3)) (own_f6 (FP.dsub FP.dconst1 d2) (FP.dsub (own_f6 FP.dconst1 (FP.dneg d2) (FP.dsub FP.dconst1 d2)) d3) (FP.dadd (FP.dsub FP.dconst1 d2) (FP.dsub (own_f6 FP.dconst1 (FP.dneg d2) (FP.dsub FP.dconst1 d2)) d3))) ∧ True
def Q_multiplyByComplement_1 (Z : State) (r0 : Addr) (d2 : UInt64) (d3 : UInt64) (hA lA : Addr) (kH kL : ClassId) (ua ub va vb : UInt64) (h0 : Heap) (n0 : Nat) (v : Option Value) (h : Heap) (L : List Loc) : Prop := v = none ∧ Fr n0 L ∧ Keep h0 h [hA, lA] ∧ Arv Z h hA kH .double (2 : Int32) [(.double ua), (.double (own_ch ub vb d2 d3))] (.double 0) ∧ Arv Z h lA kL .double (2 : Int32) [(.double va), (.double (own_cl ub vb d2 d3))] (.double 0)
theorem ef_rm_multiplyByComplement_1 (m : MethodId) (x0 : Addr) (x1 : Int32) (x2 : UInt64) (x3 : UInt64) : entryFrame m #[(.ref x0), (.int x1), (.double x2), (.double x3)] 12 = mkF m 0 #[.val (.ref x0), .val (.int x1), .val (.double x2), .second, .val (.double x3), .second, .unset, .unset, .unset, .unset, .unset, .unset] [] := by first | (simp [entryFrame, mkF, argsToLocals, Value.category]; done) | rfl
set_option maxRecDepth 65536 in
set_option maxHeartbeats 40000000 in
theorem rm_multiplyByComplement_1 (l : Launch) (Z : State) (a0 : Array Value) (hw : ∀ d ∈ tables_1, d.before a0 Z = true) (ws : List Jvm.Cond) (r0 : Addr) (d2 : UInt64) (d3 : UInt64) (hA lA : Addr) (kH kL : ClassId) (ua ub va vb : UInt64) (h0 : Heap) (n0 : Nat) (Z0 : n0 ≤ h0.size) (E0 : Exa Z h0 r0 "com/example/degree/degree/retrieval/DoubleDoubles") (Fh : Fld Z h0 r0 "com/example/degree/degree/retrieval/DoubleDoubles" "high" "[D" (.ref hA)) (Fl : Fld Z h0 r0 "com/example/degree/degree/retrieval/DoubleDoubles" "low" "[D" (.ref lA)) (Ah : Arv Z h0 hA kH .double (2 : Int32) [(.double ua), (.double ub)] (.double 0)) (Al : Arv Z h0 lA kL .double (2 : Int32) [(.double va), (.double vb)] (.double 0)) (g_hA : n0 ≤ hA) (g_lA : n0 ≤ lA) (hne : hA ≠ lA) (hz1 : r0 ≠ hA) (hz2 : r0 ≠ lA) (hok : ok12_1 ua ub va vb d2 d3) :
    MetFree l (⟨"com/example/degree/degree/retrieval/DoubleDoubles", "multiplyByComplement", "(IDD)V"⟩ : MethodName) (head1 (Jvm.Cond.code (⟨"com/example/degree/degree/retrieval/DoubleDoubles", "multiplyByComplement", "(IDD)V"⟩ : MethodName) prog_43_method_12_code 12 none :: ws) ({ frames := 3, cells := 0, slots := 0, locals := 65 } : Room)) (fun a U => a = #[(.ref r0), (.int (1 : Int32)), (.double d2), (.double d3)] ∧ Z.Warmed39 U.vm ∧ U.heap = h0) (fun _ _ _ _ _ => True) (fun _ U o U' => ∃ v L, o = .returned v ∧ Q_multiplyByComplement_1 Z r0 d2 d3 hA lA kH kL ua ub va vb h0 n0 v U'.heap L ∧ FrameEnd U o U' L ({ frames := 3, cells := 0, slots := 0, locals := 65 } : Room).cells ({ frames := 3, cells := 0, slots := 0, locals := 65 } : Room).slots) := by
  refine MetFree.of_bodySF (plainFor_of_name pnc_com_example_degree_degree_retrieval_DoubleDoubles) hisR ?_
  intro p e s m args below meth c s₁ Bd hml0 hP hK
  obtain ⟨rfl, hZ, hh⟩ := hP
  have hx := Bd.exec
  have hby := Bd.bytes
  have hml : c.maxLocals = 12 := hml0
  have hown : s.vm.findClass "com/example/degree/degree/retrieval/DoubleDoubles" = some m.cls := findClass_of_methodNamed Bd.named
  have hnm := (name_of_methodNamed Bd.named Bd.method).1
  have X0 : Stand p l e ({ frames := 3, cells := 0, slots := 0, locals := 65 } : Room) s m #[(.ref r0), (.int (1 : Int32)), (.double d2), (.double d3)] below meth c s₁ [] 0 0 := Stand.of_body Bd
  have e0 : s₁.heap = h0 := by rw [← hh, Bd.state]; rfl
  have N0 := Fr.nil n0
  have kp0 : Keep h0 h0 [hA, lA] := Keep.refl _ _
  have G0 : ∀ t, Steps p.tables e below (s₁.setTop (mkF m 0 #[.val (.ref r0), .val (.int (1 : Int32)), .val (.double d2), .second, .val (.double d3), .second, .unset, .unset, .unset, .unset, .unset, .unset] [])) t → Steps p.tables e below (s₁.setTop (entryFrame m #[(.ref r0), (.int (1 : Int32)), (.double d2), (.double d3)] 12)) t := fun t k => castTop (ef_rm_multiplyByComplement_1 m r0 (1 : Int32) d2 d3) k
  obtain ⟨hn0, hn1, hn2, hn3, hn4, hn5, -⟩ := hok
  obtain ⟨_, _, ⟨T1, L1, k1, n1⟩, -, X1, ⟨Lc1, hQ1, l1, y1, z1⟩, st1⟩ := Jvm.LawKit.callS X0 hx (y := (⟨"com/example/degree/degree/retrieval/DoubleDoubles", "twoSumError", "(DDD)D"⟩ : MethodName)) hown (mvT hZ (hq hw 30 rfl)) (mvT hZ (hq hw 31 rfl)) (mvT hZ (hq hw 5 rfl)) (mvT hZ (hq hw 32 rfl)) (by decide) (backOf (W := 0) (rm6 l Z a0 hw [] FP.dconst1 (FP.dneg d2) (FP.dsub FP.dconst1 d2)  h0 n0 Z0 hn1) hZ (hq hw 32 rfl) (hq hw 5 rfl) (by decide) (by decide)) (g := (mkF m 10 #[.val (.ref r0), .val (.int (1 : Int32)), .val (.double d2), .second, .val (.double d3), .second, .val (.double (FP.dsub FP.dconst1 d2)), .second, .unset, .unset, .unset, .unset] [(.double (FP.dsub FP.dconst1 d2)), (.double (FP.dneg d2)), (.double FP.dconst1)])) rfl (by rw [hml]; rfl) (argsL := [(.double FP.dconst1), (.double (FP.dneg d2)), (.double (FP.dsub FP.dconst1 d2))]) (rest := []) (lenOf pd_0 rfl) rfl (by show 2 * 0 + _ ≤ _; exact Nat.le_of_eq rfl) (hb hby d12_10) (fun _ _ => ⟨rfl, e0, (by decide : 0 + 0 ≤ _), (by decide : 0 + 0 ≤ _)⟩)
  dsimp only [Pt.U, Pt.locs, Pt.cells, Pt.slots] at X1 l1 y1 z1 st1 hQ1
  subst l1 y1 z1
  obtain ⟨rfl, N1q, eh1⟩ := hQ1
  have N1 := Fr.app N0 N1q
  obtain ⟨_, _, ⟨T2, L2, k2, n2⟩, -, X2, ⟨Lc2, hQ2, l2, y2, z2⟩, st2⟩ := Jvm.LawKit.callS X1 hx (y := (⟨"com/example/degree/degree/retrieval/DoubleDoubles", "twoSumError", "(DDD)D"⟩ : MethodName)) hown (mvT hZ (hq hw 30 rfl)) (mvT hZ (hq hw 31 rfl)) (mvT hZ (hq hw 5 rfl)) (mvT hZ (hq hw 32 rfl)) (by decide) (backOf (W := 4) (rm6 l Z a0 hw [] (FP.dsub FP.dconst1 d2) (FP.dsub (own_f6 FP.dconst1 (FP.dneg d2) (FP.dsub FP.dconst1 d2)) d3) (FP.dadd (FP.dsub FP.dconst1 d2) (FP.dsub (own_f6 FP.dconst1 (FP.dneg d2) (FP.dsub FP.dconst1 d2)) d3))  h0 n0 Z0 hn4) hZ (hq hw 32 rfl) (hq hw 5 rfl) (by decide) (by decide)) (g := (mkF m 35 #[.val (.ref r0), .val (.int (1 : Int32)), .val (.double d2), .second, .val (.double d3), .second, .val (.double (FP.dsub FP.dconst1 d2)), .second, .val (.double (FP.dsub (own_f6 FP.dconst1 (FP.dneg d2) (FP.dsub FP.dconst1 d2)) d3)), .second, .val (.double (FP.dadd (FP.dsub FP.dconst1 d2) (FP.dsub (own_f6 FP.dconst1 (FP.dneg d2) (FP.dsub FP.dconst1 d2)) d3))), .second] [(.double (FP.dadd (FP.dsub FP.dconst1 d2) (FP.dsub (own_f6 FP.dconst1 (FP.dneg d2) (FP.dsub FP.dconst1 d2)) d3))), (.double (FP.dsub (own_f6 FP.dconst1 (FP.dneg d2) (FP.dsub FP.dconst1 d2)) d3)), (.double (FP.dsub FP.dconst1 d2)), (.double (FP.dadd (FP.dsub FP.dconst1 d2) (FP.dsub (own_f6 FP.dconst1 (FP.dneg d2) (FP.dsub FP.dconst1 d2)) d3))), (.int (1 : Int32)), (.ref r0)])) rfl (by rw [hml]; rfl) (argsL := [(.double (FP.dsub FP.dconst1 d2)), (.double (FP.dsub (own_f6 FP.dconst1 (FP.dneg d2) (FP.dsub FP.dconst1 d2)) d3)), (.double (FP.dadd (FP.dsub FP.dconst1 d2) (FP.dsub (own_f6 FP.dconst1 (FP.dneg d2) (FP.dsub FP.dconst1 d2)) d3)))]) (rest := [(.double (FP.dadd (FP.dsub FP.dconst1 d2) (FP.dsub (own_f6 FP.dconst1 (FP.dneg d2) (FP.dsub FP.dconst1 d2)) d3))), (.int (1 : Int32)), (.ref r0)]) (lenOf pd_0 rfl) rfl (by show 2 * 0 + _ ≤ _; exact Nat.le_of_eq rfl) (hb hby d12_35) (fun _ _ => ⟨rfl, eh1, (by decide : 0 + 0 ≤ _), (by decide : 0 + 0 ≤ _)⟩)
  dsimp only [Pt.U, Pt.locs, Pt.cells, Pt.slots] at X2 l2 y2 z2 st2 hQ2
  subst l2 y2 z2
  obtain ⟨rfl, N2q, eh2⟩ := hQ2
  have N2 := Fr.app N1 N2q
  obtain ⟨cq3, q3, q3'⟩ := E0.cell
  obtain ⟨_, _, ⟨T3, L3, k3, n3⟩, -, X3, ⟨Lc3, hQ3, l3, y3, z3⟩, st3⟩ := X2.privateBack hx (y := (⟨"com/example/degree/degree/retrieval/DoubleDoubles", "multiply", "(IDD)V"⟩ : MethodName)) hown (mvT hZ (hq hw 61 rfl)) (mvT hZ (hq hw 62 rfl)) (own_selp (mvT hZ (hq hw 4 rfl)) (mvT hZ (hq hw 62 rfl)) (mvP hZ (hq hw 63 rfl)) (by decide)) (Cond.privateMethod_at (mvP hZ (hq hw 63 rfl) (args := #[]))) (mvT hZ (hq hw 64 rfl)) (by decide) (backOf (W := 0) (rm_multiply_1 l Z a0 hw [] r0 (FP.dadd (FP.dsub FP.dconst1 d2) (FP.dsub (own_f6 FP.dconst1 (FP.dneg d2) (FP.dsub FP.dconst1 d2)) d3)) (own_f6 (FP.dsub FP.dconst1 d2) (FP.dsub (own_f6 FP.dconst1 (FP.dneg d2) (FP.dsub FP.dconst1 d2)) d3) (FP.dadd (FP.dsub FP.dconst1 d2) (FP.dsub (own_f6 FP.dconst1 (FP.dneg d2) (FP.dsub FP.dconst1 d2)) d3))) hA lA kH kL ua ub va vb h0 n0 Z0 E0 Fh Fl Ah Al g_hA g_lA hne hz1 hz2 hn5) hZ (hq hw 64 rfl) (hq hw 5 rfl) (by decide) (by decide)) (g := (mkF m 38 #[.val (.ref r0), .val (.int (1 : Int32)), .val (.double d2), .second, .val (.double d3), .second, .val (.double (FP.dsub FP.dconst1 d2)), .second, .val (.double (FP.dsub (own_f6 FP.dconst1 (FP.dneg d2) (FP.dsub FP.dconst1 d2)) d3)), .second, .val (.double (FP.dadd (FP.dsub FP.dconst1 d2) (FP.dsub (own_f6 FP.dconst1 (FP.dneg d2) (FP.dsub FP.dconst1 d2)) d3))), .second] [(.double (own_f6 (FP.dsub FP.dconst1 d2) (FP.dsub (own_f6 FP.dconst1 (FP.dneg d2) (FP.dsub FP.dconst1 d2)) d3) (FP.dadd (FP.dsub FP.dconst1 d2) (FP.dsub (own_f6 FP.dconst1 (FP.dneg d2) (FP.dsub FP.dconst1 d2)) d3)))), (.double (FP.dadd (FP.dsub FP.dconst1 d2) (FP.dsub (own_f6 FP.dconst1 (FP.dneg d2) (FP.dsub FP.dconst1 d2)) d3))), (.int (1 : Int32)), (.ref r0)])) rfl (by rw [hml]; rfl) (Steps.refl _) (a := r0) (by rw [eh2]; exact q3) q3' (argsL := [(.int (1 : Int32)), (.double (FP.dadd (FP.dsub FP.dconst1 d2) (FP.dsub (own_f6 FP.dconst1 (FP.dneg d2) (FP.dsub FP.dconst1 d2)) d3))), (.double (own_f6 (FP.dsub FP.dconst1 d2) (FP.dsub (own_f6 FP.dconst1 (FP.dneg d2) (FP.dsub FP.dconst1 d2)) d3) (FP.dadd (FP.dsub FP.dconst1 d2) (FP.dsub (own_f6 FP.dconst1 (FP.dneg d2) (FP.dsub FP.dconst1 d2)) d3))))]) (rest := []) (lenOf pd_1 rfl) rfl (by show 2 * 0 + _ ≤ _; exact Nat.le_of_eq rfl) (hb hby d12_38) (fun _ _ => ⟨rfl, eh2, (by decide : 0 + 0 ≤ _), (by decide : 0 + 0 ≤ _)⟩)
  dsimp only [Pt.U, Pt.locs, Pt.cells, Pt.slots] at X3 l3 y3 z3 st3 hQ3
  subst l3 y3 z3
  obtain ⟨rfl, N3q, K3, Vh3, Vl3⟩ := hQ3
  have N3 := Fr.app N2 N3q
  have fa4 := E0.keep K3
  have fa5 := Fh.keep K3 (ninS hz1 (ninS hz2 nin0))
  have fa6 := Fl.keep K3 (ninS hz1 (ninS hz2 nin0))
  have z7 : n0 ≤ T3.heap.size := Nat.le_trans Z0 K3.1
  have kp8 : Keep h0 T3.heap [hA, lA] := kp0.trans K3 (allS (Or.inl (List.mem_of_getElem? (i := 0) rfl)) (allS (Or.inl (List.mem_of_getElem? (i := 1) rfl)) all0))
  obtain ⟨fs, hr, hrun, hended, hW, hsame⟩ := X3.leave (v := none) (fun _ => rfl)
  refine ⟨_, _, G0 _ ?_, hrun, hended, _, _, rfl, ?_, ⟨_, rfl⟩, hW, hsame.mono (by decide) (by decide)⟩
  · skip
    show Steps p.tables e below (s₁.setTop (mkF m 0 #[.val (.ref r0), .val (.int (1 : Int32)), .val (.double d2), .second, .val (.double d3), .second, .unset, .unset, .unset, .unset, .unset, .unset] [])) _
    refine XS.dconst1 X0.here hx rfl (hb hby d12_0) rfl ?_
    show Steps p.tables e below (s₁.setTop (mkF m 1 #[.val (.ref r0), .val (.int (1 : Int32)), .val (.double d2), .second, .val (.double d3), .second, .unset, .unset, .unset, .unset, .unset, .unset] [(.double FP.dconst1)])) _
    refine XS.dloadN X0.here hx rfl (hb hby d12_1) rfl ?_
    show Steps p.tables e below (s₁.setTop (mkF m 2 #[.val (.ref r0), .val (.int (1 : Int32)), .val (.double d2), .second, .val (.double d3), .second, .unset, .unset, .unset, .unset, .unset, .unset] [(.double d2), (.double FP.dconst1)])) _
    refine XS.dsubS X0.here hx rfl (hb hby d12_2) rfl hn0 rfl ?_
    show Steps p.tables e below (s₁.setTop (mkF m 3 #[.val (.ref r0), .val (.int (1 : Int32)), .val (.double d2), .second, .val (.double d3), .second, .unset, .unset, .unset, .unset, .unset, .unset] [(.double (FP.dsub FP.dconst1 d2))])) _
    refine XS.dstore X0.here hx rfl (hb hby d12_3) rfl (l' := #[.val (.ref r0), .val (.int (1 : Int32)), .val (.double d2), .second, .val (.double d3), .second, .val (.double (FP.dsub FP.dconst1 d2)), .second, .unset, .unset, .unset, .unset]) rfl ?_
    show Steps p.tables e below (s₁.setTop (mkF m 5 #[.val (.ref r0), .val (.int (1 : Int32)), .val (.double d2), .second, .val (.double d3), .second, .val (.double (FP.dsub FP.dconst1 d2)), .second, .unset, .unset, .unset, .unset] [])) _
    refine XS.dconst1 X0.here hx rfl (hb hby d12_5) rfl ?_
    show Steps p.tables e below (s₁.setTop (mkF m 6 #[.val (.ref r0), .val (.int (1 : Int32)), .val (.double d2), .second, .val (.double d3), .second, .val (.double (FP.dsub FP.dconst1 d2)), .second, .unset, .unset, .unset, .unset] [(.double FP.dconst1)])) _
    refine XS.dloadN X0.here hx rfl (hb hby d12_6) rfl ?_
    show Steps p.tables e below (s₁.setTop (mkF m 7 #[.val (.ref r0), .val (.int (1 : Int32)), .val (.double d2), .second, .val (.double d3), .second, .val (.double (FP.dsub FP.dconst1 d2)), .second, .unset, .unset, .unset, .unset] [(.double d2), (.double FP.dconst1)])) _
    refine XS.dnegS X0.here hx rfl (hb hby d12_7) rfl rfl ?_
    show Steps p.tables e below (s₁.setTop (mkF m 8 #[.val (.ref r0), .val (.int (1 : Int32)), .val (.double d2), .second, .val (.double d3), .second, .val (.double (FP.dsub FP.dconst1 d2)), .second, .unset, .unset, .unset, .unset] [(.double (FP.dneg d2)), (.double FP.dconst1)])) _
    refine XS.dload X0.here hx rfl (hb hby d12_8) rfl ?_
    show Steps p.tables e below (s₁.setTop (mkF m 10 #[.val (.ref r0), .val (.int (1 : Int32)), .val (.double d2), .second, .val (.double d3), .second, .val (.double (FP.dsub FP.dconst1 d2)), .second, .unset, .unset, .unset, .unset] [(.double (FP.dsub FP.dconst1 d2)), (.double (FP.dneg d2)), (.double FP.dconst1)])) _
    refine st1 _ ?_
    show Steps p.tables e below (T1.setTop (mkF m 13 #[.val (.ref r0), .val (.int (1 : Int32)), .val (.double d2), .second, .val (.double d3), .second, .val (.double (FP.dsub FP.dconst1 d2)), .second, .unset, .unset, .unset, .unset] [(.double (own_f6 FP.dconst1 (FP.dneg d2) (FP.dsub FP.dconst1 d2)))])) _
    refine XS.dload X1.here hx rfl (hb hby d12_13) rfl ?_
    show Steps p.tables e below (T1.setTop (mkF m 15 #[.val (.ref r0), .val (.int (1 : Int32)), .val (.double d2), .second, .val (.double d3), .second, .val (.double (FP.dsub FP.dconst1 d2)), .second, .unset, .unset, .unset, .unset] [(.double d3), (.double (own_f6 FP.dconst1 (FP.dneg d2) (FP.dsub FP.dconst1 d2)))])) _
    refine XS.dsubS X1.here hx rfl (hb hby d12_15) rfl hn2 rfl ?_
    show Steps p.tables e below (T1.setTop (mkF m 16 #[.val (.ref r0), .val (.int (1 : Int32)), .val (.double d2), .second, .val (.double d3), .second, .val (.double (FP.dsub FP.dconst1 d2)), .second, .unset, .unset, .unset, .unset] [(.double (FP.dsub (own_f6 FP.dconst1 (FP.dneg d2) (FP.dsub FP.dconst1 d2)) d3))])) _
    refine XS.dstore X1.here hx rfl (hb hby d12_16) rfl (l' := #[.val (.ref r0), .val (.int (1 : Int32)), .val (.double d2), .second, .val (.double d3), .second, .val (.double (FP.dsub FP.dconst1 d2)), .second, .val (.double (FP.dsub (own_f6 FP.dconst1 (FP.dneg d2) (FP.dsub FP.dconst1 d2)) d3)), .second, .unset, .unset]) rfl ?_
    show Steps p.tables e below (T1.setTop (mkF m 18 #[.val (.ref r0), .val (.int (1 : Int32)), .val (.double d2), .second, .val (.double d3), .second, .val (.double (FP.dsub FP.dconst1 d2)), .second, .val (.double (FP.dsub (own_f6 FP.dconst1 (FP.dneg d2) (FP.dsub FP.dconst1 d2)) d3)), .second, .unset, .unset] [])) _
    refine XS.dload X1.here hx rfl (hb hby d12_18) rfl ?_
    show Steps p.tables e below (T1.setTop (mkF m 20 #[.val (.ref r0), .val (.int (1 : Int32)), .val (.double d2), .second, .val (.double d3), .second, .val (.double (FP.dsub FP.dconst1 d2)), .second, .val (.double (FP.dsub (own_f6 FP.dconst1 (FP.dneg d2) (FP.dsub FP.dconst1 d2)) d3)), .second, .unset, .unset] [(.double (FP.dsub FP.dconst1 d2))])) _
    refine XS.dload X1.here hx rfl (hb hby d12_20) rfl ?_
    show Steps p.tables e below (T1.setTop (mkF m 22 #[.val (.ref r0), .val (.int (1 : Int32)), .val (.double d2), .second, .val (.double d3), .second, .val (.double (FP.dsub FP.dconst1 d2)), .second, .val (.double (FP.dsub (own_f6 FP.dconst1 (FP.dneg d2) (FP.dsub FP.dconst1 d2)) d3)), .second, .unset, .unset] [(.double (FP.dsub (own_f6 FP.dconst1 (FP.dneg d2) (FP.dsub FP.dconst1 d2)) d3)), (.double (FP.dsub FP.dconst1 d2))])) _
    refine XS.daddS X1.here hx rfl (hb hby d12_22) rfl hn3 rfl ?_
    show Steps p.tables e below (T1.setTop (mkF m 23 #[.val (.ref r0), .val (.int (1 : Int32)), .val (.double d2), .second, .val (.double d3), .second, .val (.double (FP.dsub FP.dconst1 d2)), .second, .val (.double (FP.dsub (own_f6 FP.dconst1 (FP.dneg d2) (FP.dsub FP.dconst1 d2)) d3)), .second, .unset, .unset] [(.double (FP.dadd (FP.dsub FP.dconst1 d2) (FP.dsub (own_f6 FP.dconst1 (FP.dneg d2) (FP.dsub FP.dconst1 d2)) d3)))])) _
    refine XS.dstore X1.here hx rfl (hb hby d12_23) rfl (l' := #[.val (.ref r0), .val (.int (1 : Int32)), .val (.double d2), .second, .val (.double d3), .second, .val (.double (FP.dsub FP.dconst1 d2)), .second, .val (.double (FP.dsub (own_f6 FP.dconst1 (FP.dneg d2) (FP.dsub FP.dconst1 d2)) d3)), .second, .val (.double (FP.dadd (FP.dsub FP.dconst1 d2) (FP.dsub (own_f6 FP.dconst1 (FP.dneg d2) (FP.dsub FP.dconst1 d2)) d3))), .second]) rfl ?_
    show Steps p.tables e below (T1.setTop (mkF m 25 #[.val (.ref r0), .val (.int (1 : Int32)), .val (.double d2), .second, .val (.double d3), .second, .val (.double (FP.dsub FP.dconst1 d2)), .second, .val (.double (FP.dsub (own_f6 FP.dconst1 (FP.dneg d2) (FP.dsub FP.dconst1 d2)) d3)), .second, .val (.double (FP.dadd (FP.dsub FP.dconst1 d2) (FP.dsub (own_f6 FP.dconst1 (FP.dneg d2) (FP.dsub FP.dconst1 d2)) d3))), .second] [])) _
    refine XS.aloadN X1.here hx rfl (hb hby d12_25) rfl rfl ?_
    show Steps p.tables e below (T1.setTop (mkF m 26 #[.val (.ref r0), .val (.int (1 : Int32)), .val (.double d2), .second, .val (.double d3), .second, .val (.double (FP.dsub FP.dconst1 d2)), .second, .val (.double (FP.dsub (own_f6 FP.dconst1 (FP.dneg d2) (FP.dsub FP.dconst1 d2)) d3)), .second, .val (.double (FP.dadd (FP.dsub FP.dconst1 d2) (FP.dsub (own_f6 FP.dconst1 (FP.dneg d2) (FP.dsub FP.dconst1 d2)) d3))), .second] [(.ref r0)])) _
    refine XS.iloadN X1.here hx rfl (hb hby d12_26) rfl ?_
    show Steps p.tables e below (T1.setTop (mkF m 27 #[.val (.ref r0), .val (.int (1 : Int32)), .val (.double d2), .second, .val (.double d3), .second, .val (.double (FP.dsub FP.dconst1 d2)), .second, .val (.double (FP.dsub (own_f6 FP.dconst1 (FP.dneg d2) (FP.dsub FP.dconst1 d2)) d3)), .second, .val (.double (FP.dadd (FP.dsub FP.dconst1 d2) (FP.dsub (own_f6 FP.dconst1 (FP.dneg d2) (FP.dsub FP.dconst1 d2)) d3))), .second] [(.int (1 : Int32)), (.ref r0)])) _
    refine XS.dload X1.here hx rfl (hb hby d12_27) rfl ?_
    show Steps p.tables e below (T1.setTop (mkF m 29 #[.val (.ref r0), .val (.int (1 : Int32)), .val (.double d2), .second, .val (.double d3), .second, .val (.double (FP.dsub FP.dconst1 d2)), .second, .val (.double (FP.dsub (own_f6 FP.dconst1 (FP.dneg d2) (FP.dsub FP.dconst1 d2)) d3)), .second, .val (.double (FP.dadd (FP.dsub FP.dconst1 d2) (FP.dsub (own_f6 FP.dconst1 (FP.dneg d2) (FP.dsub FP.dconst1 d2)) d3))), .second] [(.double (FP.dadd (FP.dsub FP.dconst1 d2) (FP.dsub (own_f6 FP.dconst1 (FP.dneg d2) (FP.dsub FP.dconst1 d2)) d3))), (.int (1 : Int32)), (.ref r0)])) _
    refine XS.dload X1.here hx rfl (hb hby d12_29) rfl ?_
    show Steps p.tables e below (T1.setTop (mkF m 31 #[.val (.ref r0), .val (.int (1 : Int32)), .val (.double d2), .second, .val (.double d3), .second, .val (.double (FP.dsub FP.dconst1 d2)), .second, .val (.double (FP.dsub (own_f6 FP.dconst1 (FP.dneg d2) (FP.dsub FP.dconst1 d2)) d3)), .second, .val (.double (FP.dadd (FP.dsub FP.dconst1 d2) (FP.dsub (own_f6 FP.dconst1 (FP.dneg d2) (FP.dsub FP.dconst1 d2)) d3))), .second] [(.double (FP.dsub FP.dconst1 d2)), (.double (FP.dadd (FP.dsub FP.dconst1 d2) (FP.dsub (own_f6 FP.dconst1 (FP.dneg d2) (FP.dsub FP.dconst1 d2)) d3))), (.int (1 : Int32)), (.ref r0)])) _
    refine XS.dload X1.here hx rfl (hb hby d12_31) rfl ?_
    show Steps p.tables e below (T1.setTop (mkF m 33 #[.val (.ref r0), .val (.int (1 : Int32)), .val (.double d2), .second, .val (.double d3), .second, .val (.double (FP.dsub FP.dconst1 d2)), .second, .val (.double (FP.dsub (own_f6 FP.dconst1 (FP.dneg d2) (FP.dsub FP.dconst1 d2)) d3)), .second, .val (.double (FP.dadd (FP.dsub FP.dconst1 d2) (FP.dsub (own_f6 FP.dconst1 (FP.dneg d2) (FP.dsub FP.dconst1 d2)) d3))), .second] [(.double (FP.dsub (own_f6 FP.dconst1 (FP.dneg d2) (FP.dsub FP.dconst1 d2)) d3)), (.double (FP.dsub FP.dconst1 d2)), (.double (FP.dadd (FP.dsub FP.dconst1 d2) (FP.dsub (own_f6 FP.dconst1 (FP.dneg d2) (FP.dsub FP.dconst1 d2)) d3))), (.int (1 : Int32)), (.ref r0)])) _
    refine XS.dload X1.here hx rfl (hb hby d12_33) rfl ?_
    show Steps p.tables e below (T1.setTop (mkF m 35 #[.val (.ref r0), .val (.int (1 : Int32)), .val (.double d2), .second, .val (.double d3), .second, .val (.double (FP.dsub FP.dconst1 d2)), .second, .val (.double (FP.dsub (own_f6 FP.dconst1 (FP.dneg d2) (FP.dsub FP.dconst1 d2)) d3)), .second, .val (.double (FP.dadd (FP.dsub FP.dconst1 d2) (FP.dsub (own_f6 FP.dconst1 (FP.dneg d2) (FP.dsub FP.dconst1 d2)) d3))), .second] [(.double (FP.dadd (FP.dsub FP.dconst1 d2) (FP.dsub (own_f6 FP.dconst1 (FP.dneg d2) (FP.dsub FP.dconst1 d2)) d3))), (.double (FP.dsub (own_f6 FP.dconst1 (FP.dneg d2) (FP.dsub FP.dconst1 d2)) d3)), (.double (FP.dsub FP.dconst1 d2)), (.double (FP.dadd (FP.dsub FP.dconst1 d2) (FP.dsub (own_f6 FP.dconst1 (FP.dneg d2) (FP.dsub FP.dconst1 d2)) d3))), (.int (1 : Int32)), (.ref r0)])) _
    refine st2 _ ?_
    show Steps p.tables e below (T2.setTop (mkF m 38 #[.val (.ref r0), .val (.int (1 : Int32)), .val (.double d2), .second, .val (.double d3), .second, .val (.double (FP.dsub FP.dconst1 d2)), .second, .val (.double (FP.dsub (own_f6 FP.dconst1 (FP.dneg d2) (FP.dsub FP.dconst1 d2)) d3)), .second, .val (.double (FP.dadd (FP.dsub FP.dconst1 d2) (FP.dsub (own_f6 FP.dconst1 (FP.dneg d2) (FP.dsub FP.dconst1 d2)) d3))), .second] [(.double (own_f6 (FP.dsub FP.dconst1 d2) (FP.dsub (own_f6 FP.dconst1 (FP.dneg d2) (FP.dsub FP.dconst1 d2)) d3) (FP.dadd (FP.dsub FP.dconst1 d2) (FP.dsub (own_f6 FP.dconst1 (FP.dneg d2) (FP.dsub FP.dconst1 d2)) d3)))), (.double (FP.dadd (FP.dsub FP.dconst1 d2) (FP.dsub (own_f6 FP.dconst1 (FP.dneg d2) (FP.dsub FP.dconst1 d2)) d3))), (.int (1 : Int32)), (.ref r0)])) _
    refine st3.trans ?_
    show Steps p.tables e below (T3.setTop (mkF m 41 #[.val (.ref r0), .val (.int (1 : Int32)), .val (.double d2), .second, .val (.double d3), .second, .val (.double (FP.dsub FP.dconst1 d2)), .second, .val (.double (FP.dsub (own_f6 FP.dconst1 (FP.dneg d2) (FP.dsub FP.dconst1 d2)) d3)), .second, .val (.double (FP.dadd (FP.dsub FP.dconst1 d2) (FP.dsub (own_f6 FP.dconst1 (FP.dneg d2) (FP.dsub FP.dconst1 d2)) d3))), .second] [])) _
    exact X3.returnOut hx Bd.returns (hb hby d12_41) hr
  · show Q_multiplyByComplement_1 Z r0 d2 d3 hA lA kH kL ua ub va vb h0 n0 _ T3.heap _
    exact ⟨rfl, N3, kp8, Vh3, Vl3⟩
theorem d11_0 : decode prog_43_method_8_code 0 = .ok (.iconst 0, 1) := by decide +kernel
theorem d11_1 : decode prog_43_method_8_code 1 = .ok (.istore_n 2, 1) := by decide +kernel
theorem d11_2 : decode prog_43_method_8_code 2 = .ok (.iload_n 2, 1) := by decide +kernel
theorem d11_3 : decode prog_43_method_8_code 3 = .ok (.aload_n 0, 1) := by decide +kernel
theorem d11_4 : decode prog_43_method_8_code 4 = .ok (.getfield 7, 3) := by decide +kernel
theorem d11_7 : decode prog_43_method_8_code 7 = .ok (.arraylength, 1) := by decide +kernel
theorem d11_8 : decode prog_43_method_8_code 8 = .ok (.if_icmp .ge 26, 3) := by decide +kernel
theorem d11_11 : decode prog_43_method_8_code 11 = .ok (.aload_n 0, 1) := by decide +kernel
theorem d11_12 : decode prog_43_method_8_code 12 = .ok (.iload_n 2, 1) := by decide +kernel
theorem d11_13 : decode prog_43_method_8_code 13 = .ok (.aload_n 1, 1) := by decide +kernel
theorem d11_14 : decode prog_43_method_8_code 14 = .ok (.getfield 7, 3) := by decide +kernel
theorem d11_17 : decode prog_43_method_8_code 17 = .ok (.iload_n 2, 1) := by decide +kernel
theorem d11_18 : decode prog_43_method_8_code 18 = .ok (.daload, 1) := by decide +kernel
theorem d11_19 : decode prog_43_method_8_code 19 = .ok (.aload_n 1, 1) := by decide +kernel
theorem d11_20 : decode prog_43_method_8_code 20 = .ok (.getfield 13, 3) := by decide +kernel
theorem d11_23 : decode prog_43_method_8_code 23 = .ok (.iload_n 2, 1) := by decide +kernel
theorem d11_24 : decode prog_43_method_8_code 24 = .ok (.daload, 1) := by decide +kernel
theorem d11_25 : decode prog_43_method_8_code 25 = .ok (.invokevirtual 36, 3) := by decide +kernel
theorem d11_28 : decode prog_43_method_8_code 28 = .ok (.iinc 2 1, 3) := by decide +kernel
theorem d11_31 : decode prog_43_method_8_code 31 = .ok (.goto (-29), 3) := by decide +kernel
theorem d11_34 : decode prog_43_method_8_code 34 = .ok (.return_, 1) := by decide +kernel
def ok11 (ua ub va vb uc ud vc vd : UInt64) : Prop := ok12_0 ua ub va vb uc vc ∧ ok12_1 (own_ch ua va uc vc) ub (own_cl ua va uc vc) vb ud vd ∧ True
def Q11 (Z : State) (r0 : Addr) (r1 : Addr) (hA lA : Addr) (kH kL : ClassId) (ua ub va vb : UInt64) (hB lB : Addr) (kI kM : ClassId) (uc ud vc vd : UInt64) (h0 : Heap) (n0 : Nat) (v : Option Value) (h : Heap) (L : List Loc) : Prop := v = none ∧ Fr n0 L ∧ Keep h0 h [hA, lA] ∧ Arv Z h hA kH .double (2 : Int32) [(.double (own_ch ua va uc vc)), (.double (own_ch ub vb ud vd))] (.double 0) ∧ Arv Z h lA kL .double (2 : Int32) [(.double (own_cl ua va uc vc)), (.double (own_cl ub vb ud vd))] (.double 0)
theorem ef_rm11 (m : MethodId) (x0 : Addr) (x1 : Addr) : entryFrame m #[(.ref x0), (.ref x1)] 3 = mkF m 0 #[.val (.ref x0), .val (.ref x1), .unset] [] := by first | (simp [entryFrame, mkF, argsToLocals, Value.category]; done) | rfl
set_option maxRecDepth 65536 in
set_option maxHeartbeats 40000000 in
theorem rm11 (l : Launch) (Z : State) (a0 : Array Value) (hw : ∀ d ∈ tables_1, d.before a0 Z = true) (ws : List Jvm.Cond) (r0 : Addr) (r1 : Addr) (hA lA : Addr) (kH kL : ClassId) (ua ub va vb : UInt64) (hB lB : Addr) (kI kM : ClassId) (uc ud vc vd : UInt64) (h0 : Heap) (n0 : Nat) (Z0 : n0 ≤ h0.size) (E0 : Exa Z h0 r0 "com/example/degree/degree/retrieval/DoubleDoubles") (Fh : Fld Z h0 r0 "com/example/degree/degree/retrieval/DoubleDoubles" "high" "[D" (.ref hA)) (Fl : Fld Z h0 r0 "com/example/degree/degree/retrieval/DoubleDoubles" "low" "[D" (.ref lA)) (Ah : Arv Z h0 hA kH .double (2 : Int32) [(.double ua), (.double ub)] (.double 0)) (Al : Arv Z h0 lA kL .double (2 : Int32) [(.double va), (.double vb)] (.double 0)) (E1 : Exa Z h0 r1 "com/example/degree/degree/retrieval/DoubleDoubles") (Gh : Fld Z h0 r1 "com/example/degree/degree/retrieval/DoubleDoubles" "high" "[D" (.ref hB)) (Gl : Fld Z h0 r1 "com/example/degree/degree/retrieval/DoubleDoubles" "low" "[D" (.ref lB)) (Bh : Arv Z h0 hB kI .double (2 : Int32) [(.double uc), (.double ud)] (.double 0)) (Bl : Arv Z h0 lB kM .double (2 : Int32) [(.double vc), (.double vd)] (.double 0)) (g_hA : n0 ≤ hA) (g_lA : n0 ≤ lA) (hne : hA ≠ lA) (hz1 : r0 ≠ hA) (hz2 : r0 ≠ lA) (hy0 : r1 ≠ hA) (hy1 : r1 ≠ lA) (hy2 : hB ≠ hA) (hy3 : hB ≠ lA) (hy4 : lB ≠ hA) (hy5 : lB ≠ lA) (hok : ok11 ua ub va vb uc ud vc vd) :
    MetFree l (⟨"com/example/degree/degree/retrieval/DoubleDoubles", "multiplyByComplements", "(Lcom/example/degree/degree/retrieval/DoubleDoubles;)V"⟩ : MethodName) (head1 (Jvm.Cond.code (⟨"com/example/degree/degree/retrieval/DoubleDoubles", "multiplyByComplements", "(Lcom/example/degree/degree/retrieval/DoubleDoubles;)V"⟩ : MethodName) prog_43_method_8_code 3 none :: ws) ({ frames := 4, cells := 0, slots := 0, locals := 88 } : Room)) (fun a U => a = #[(.ref r0), (.ref r1)] ∧ Z.Warmed39 U.vm ∧ U.heap = h0) (fun _ _ _ _ _ => True) (fun _ U o U' => ∃ v L, o = .returned v ∧ Q11 Z r0 r1 hA lA kH kL ua ub va vb hB lB kI kM uc ud vc vd h0 n0 v U'.heap L ∧ FrameEnd U o U' L ({ frames := 4, cells := 0, slots := 0, locals := 88 } : Room).cells ({ frames := 4, cells := 0, slots := 0, locals := 88 } : Room).slots) := by
  refine MetFree.of_bodySF (plainFor_of_name pnc_com_example_degree_degree_retrieval_DoubleDoubles) hisR ?_
  intro p e s m args below meth c s₁ Bd hml0 hP hK
  obtain ⟨rfl, hZ, hh⟩ := hP
  have hx := Bd.exec
  have hby := Bd.bytes
  have hml : c.maxLocals = 3 := hml0
  have hown : s.vm.findClass "com/example/degree/degree/retrieval/DoubleDoubles" = some m.cls := findClass_of_methodNamed Bd.named
  have hnm := (name_of_methodNamed Bd.named Bd.method).1
  have X0 : Stand p l e ({ frames := 4, cells := 0, slots := 0, locals := 88 } : Room) s m #[(.ref r0), (.ref r1)] below meth c s₁ [] 0 0 := Stand.of_body Bd
  have e0 : s₁.heap = h0 := by rw [← hh, Bd.state]; rfl
  have N0 := Fr.nil n0
  have kp0 : Keep h0 h0 [hA, lA] := Keep.refl _ _
  have G0 : ∀ t, Steps p.tables e below (s₁.setTop (mkF m 0 #[.val (.ref r0), .val (.ref r1), .unset] [])) t → Steps p.tables e below (s₁.setTop (entryFrame m #[(.ref r0), (.ref r1)] 3)) t := fun t k => castTop (ef_rm11 m r0 r1) k
  obtain ⟨hn0, hn1, -⟩ := hok
  obtain ⟨T1, X1, e1, st1⟩ := getF X0 hx hZ hown (host := "") (Or.inl (hq hw 13 rfl)) Via.refl e0 Fh (g := (mkF m 4 #[.val (.ref r0), .val (.ref r1), .val (.int (0 : Int32))] [(.ref r0), (.int (0 : Int32))])) rfl rfl (hb hby d11_4)
  obtain ⟨cl2, Ar2, q2, S2, M2, H2, G2⟩ := id Ah
  have G3 : ∀ t, Steps p.tables e below (T1.setTop (mkF m 8 #[.val (.ref r0), .val (.ref r1), .val (.int (0 : Int32))] [(.int (2 : Int32)), (.int (0 : Int32))])) t → Steps p.tables e below (s₁.setTop (entryFrame m #[(.ref r0), (.ref r1)] 3)) t := by
    intro t kt
    refine G0 _ ?_
    show Steps p.tables e below (s₁.setTop (mkF m 0 #[.val (.ref r0), .val (.ref r1), .unset] [])) _
    refine XS.iconst X0.here hx rfl (hb hby d11_0) ?_
    show Steps p.tables e below (s₁.setTop (mkF m 1 #[.val (.ref r0), .val (.ref r1), .unset] [(.int (0 : Int32))])) _
    refine XS.istoreN X0.here hx rfl (hb hby d11_1) rfl (l' := #[.val (.ref r0), .val (.ref r1), .val (.int (0 : Int32))]) rfl ?_
    show Steps p.tables e below (s₁.setTop (mkF m 2 #[.val (.ref r0), .val (.ref r1), .val (.int (0 : Int32))] [])) _
    refine XS.iloadN X0.here hx rfl (hb hby d11_2) rfl ?_
    show Steps p.tables e below (s₁.setTop (mkF m 3 #[.val (.ref r0), .val (.ref r1), .val (.int (0 : Int32))] [(.int (0 : Int32))])) _
    refine XS.aloadN X0.here hx rfl (hb hby d11_3) rfl rfl ?_
    show Steps p.tables e below (s₁.setTop (mkF m 4 #[.val (.ref r0), .val (.ref r1), .val (.int (0 : Int32))] [(.ref r0), (.int (0 : Int32))])) _
    refine st1 _ ?_
    show Steps p.tables e below (T1.setTop (mkF m 7 #[.val (.ref r0), .val (.ref r1), .val (.int (0 : Int32))] [(.ref hA), (.int (0 : Int32))])) _
    refine X1.arraylength hx (by rw [e1]; exact Ar2.1) (State.isArrayOf_alike hZ.alike Ar2.2.1) (g := (mkF m 7 #[.val (.ref r0), .val (.ref r1), .val (.int (0 : Int32))] [(.ref hA), (.int (0 : Int32))])) rfl rfl (hb hby d11_7) _ ?_
    rw [len_of S2 M2]
    exact kt
  obtain ⟨T4, X4, e4, st4⟩ := getF X1 hx hZ hown (host := "") (Or.inl (hq hw 13 rfl)) Via.refl e1 Gh (g := (mkF m 14 #[.val (.ref r0), .val (.ref r1), .val (.int (0 : Int32))] [(.ref r1), (.int (0 : Int32)), (.ref r0)])) rfl rfl (hb hby d11_14)
  obtain ⟨cl5, Ar5, q5, S5, M5, H5, G5⟩ := id Bh
  have hin5 : ¬ ((0 : Int32) < 0 ∨ cl5.slots.size ≤ ((0 : Int32)).toNatClampNeg) := inb_of S5 ⟨by decide, by decide⟩
  have hat5 : cl5.slots[((0 : Int32)).toNatClampNeg]? = some (.double uc) := H5.at hin5 rfl
  obtain ⟨T6, X6, e6, st6⟩ := getF X4 hx hZ hown (host := "") (Or.inl (hq hw 15 rfl)) Via.refl e4 Gl (g := (mkF m 20 #[.val (.ref r0), .val (.ref r1), .val (.int (0 : Int32))] [(.ref r1), (.double uc), (.int (0 : Int32)), (.ref r0)])) rfl rfl (hb hby d11_20)
  obtain ⟨cl7, Ar7, q7, S7, M7, H7, G7⟩ := id Bl
  have hin7 : ¬ ((0 : Int32) < 0 ∨ cl7.slots.size ≤ ((0 : Int32)).toNatClampNeg) := inb_of S7 ⟨by decide, by decide⟩
  have hat7 : cl7.slots[((0 : Int32)).toNatClampNeg]? = some (.double vc) := H7.at hin7 rfl
  obtain ⟨cq8, q8, q8'⟩ := E0.cell
  obtain ⟨_, _, ⟨T8, L8, k8, n8⟩, -, X8, ⟨Lc8, hQ8, l8, y8, z8⟩, st8⟩ := X6.privateBack hx (y := (⟨"com/example/degree/degree/retrieval/DoubleDoubles", "multiplyByComplement", "(IDD)V"⟩ : MethodName)) hown (mvT hZ (hq hw 57 rfl)) (mvT hZ (hq hw 58 rfl)) (own_selp (mvT hZ (hq hw 4 rfl)) (mvT hZ (hq hw 58 rfl)) (mvP hZ (hq hw 59 rfl)) (by decide)) (Cond.privateMethod_at (mvP hZ (hq hw 59 rfl) (args := #[]))) (mvT hZ (hq hw 60 rfl)) (by decide) (backOf (W := 0) (rm_multiplyByComplement_0 l Z a0 hw [] r0 uc vc hA lA kH kL ua ub va vb h0 n0 Z0 E0 Fh Fl Ah Al g_hA g_lA hne hz1 hz2 hn0) hZ (hq hw 60 rfl) (hq hw 5 rfl) (by decide) (by decide)) (g := (mkF m 25 #[.val (.ref r0), .val (.ref r1), .val (.int (0 : Int32))] [(.double vc), (.double uc), (.int (0 : Int32)), (.ref r0)])) rfl (by rw [hml]; rfl) (Steps.refl _) (a := r0) (by rw [e6]; exact q8) q8' (argsL := [(.int (0 : Int32)), (.double uc), (.double vc)]) (rest := []) (lenOf pd_1 rfl) rfl (by show 2 * 0 + _ ≤ _; exact Nat.le_of_eq rfl) (hb hby d11_25) (fun _ _ => ⟨rfl, e6, (by decide : 0 + 0 ≤ _), (by decide : 0 + 0 ≤ _)⟩)
  dsimp only [Pt.U, Pt.locs, Pt.cells, Pt.slots] at X8 l8 y8 z8 st8 hQ8
  subst l8 y8 z8
  obtain ⟨rfl, N8q, K8, Vh8, Vl8⟩ := hQ8
  have N8 := Fr.app N0 N8q
  have fa9 := E0.keep K8
  have fa10 := Fh.keep K8 (ninS hz1 (ninS hz2 nin0))
  have fa11 := Fl.keep K8 (ninS hz1 (ninS hz2 nin0))
  have fa12 := E1.keep K8
  have fa13 := Gh.keep K8 (ninS hy0 (ninS hy1 nin0))
  have fa14 := Gl.keep K8 (ninS hy0 (ninS hy1 nin0))
  have fa15 := Bh.keep K8 (ninS hy2 (ninS hy3 nin0))
  have fa16 := Bl.keep K8 (ninS hy4 (ninS hy5 nin0))
  have z17 : n0 ≤ T8.heap.size := Nat.le_trans Z0 K8.1
  have kp18 : Keep h0 T8.heap [hA, lA] := kp0.trans K8 (allS (Or.inl (List.mem_of_getElem? (i := 0) rfl)) (allS (Or.inl (List.mem_of_getElem? (i := 1) rfl)) all0))
  obtain ⟨T19, X19, e19, st19⟩ := getF X8 hx hZ hown (host := "") (Or.inl (hq hw 13 rfl)) Via.refl rfl fa10 (g := (mkF m 4 #[.val (.ref r0), .val (.ref r1), .val (.int (1 : Int32))] [(.ref r0), (.int (1 : Int32))])) rfl rfl (hb hby d11_4)
  obtain ⟨cl20, Ar20, q20, S20, M20, H20, G20⟩ := id Vh8
  have G21 : ∀ t, Steps p.tables e below (T19.setTop (mkF m 8 #[.val (.ref r0), .val (.ref r1), .val (.int (1 : Int32))] [(.int (2 : Int32)), (.int (1 : Int32))])) t → Steps p.tables e below (s₁.setTop (entryFrame m #[(.ref r0), (.ref r1)] 3)) t := by
    intro t kt
    refine G3 _ ?_
    show Steps p.tables e below (T1.setTop (mkF m 8 #[.val (.ref r0), .val (.ref r1), .val (.int (0 : Int32))] [(.int (2 : Int32)), (.int (0 : Int32))])) _
    refine XS.icmpNo X1.here hx rfl (hb hby d11_8) rfl (tlt (by decide)).2.1 ?_
    show Steps p.tables e below (T1.setTop (mkF m 11 #[.val (.ref r0), .val (.ref r1), .val (.int (0 : Int32))] [])) _
    refine XS.aloadN X1.here hx rfl (hb hby d11_11) rfl rfl ?_
    show Steps p.tables e below (T1.setTop (mkF m 12 #[.val (.ref r0), .val (.ref r1), .val (.int (0 : Int32))] [(.ref r0)])) _
    refine XS.iloadN X1.here hx rfl (hb hby d11_12) rfl ?_
    show Steps p.tables e below (T1.setTop (mkF m 13 #[.val (.ref r0), .val (.ref r1), .val (.int (0 : Int32))] [(.int (0 : Int32)), (.ref r0)])) _
    refine XS.aloadN X1.here hx rfl (hb hby d11_13) rfl rfl ?_
    show Steps p.tables e below (T1.setTop (mkF m 14 #[.val (.ref r0), .val (.ref r1), .val (.int (0 : Int32))] [(.ref r1), (.int (0 : Int32)), (.ref r0)])) _
    refine st4 _ ?_
    show Steps p.tables e below (T4.setTop (mkF m 17 #[.val (.ref r0), .val (.ref r1), .val (.int (0 : Int32))] [(.ref hB), (.int (0 : Int32)), (.ref r0)])) _
    refine XS.iloadN X4.here hx rfl (hb hby d11_17) rfl ?_
    show Steps p.tables e below (T4.setTop (mkF m 18 #[.val (.ref r0), .val (.ref r1), .val (.int (0 : Int32))] [(.int (0 : Int32)), (.ref hB), (.int (0 : Int32)), (.ref r0)])) _
    refine X4.daload hx (j := (0 : Int32)) (v := (.double uc)) (by rw [e4]; exact Ar5.1) (State.isArrayOf_alike hZ.alike Ar5.2.1) Ar5.2.2 hin5 hat5 (g := (mkF m 18 #[.val (.ref r0), .val (.ref r1), .val (.int (0 : Int32))] [(.int (0 : Int32)), (.ref hB), (.int (0 : Int32)), (.ref r0)])) rfl rfl (hb hby d11_18) _ ?_
    show Steps p.tables e below (T4.setTop (mkF m 19 #[.val (.ref r0), .val (.ref r1), .val (.int (0 : Int32))] [(.double uc), (.int (0 : Int32)), (.ref r0)])) _
    refine XS.aloadN X4.here hx rfl (hb hby d11_19) rfl rfl ?_
    show Steps p.tables e below (T4.setTop (mkF m 20 #[.val (.ref r0), .val (.ref r1), .val (.int (0 : Int32))] [(.ref r1), (.double uc), (.int (0 : Int32)), (.ref r0)])) _
    refine st6 _ ?_
    show Steps p.tables e below (T6.setTop (mkF m 23 #[.val (.ref r0), .val (.ref r1), .val (.int (0 : Int32))] [(.ref lB), (.double uc), (.int (0 : Int32)), (.ref r0)])) _
    refine XS.iloadN X6.here hx rfl (hb hby d11_23) rfl ?_
    show Steps p.tables e below (T6.setTop (mkF m 24 #[.val (.ref r0), .val (.ref r1), .val (.int (0 : Int32))] [(.int (0 : Int32)), (.ref lB), (.double uc), (.int (0 : Int32)), (.ref r0)])) _
    refine X6.daload hx (j := (0 : Int32)) (v := (.double vc)) (by rw [e6]; exact Ar7.1) (State.isArrayOf_alike hZ.alike Ar7.2.1) Ar7.2.2 hin7 hat7 (g := (mkF m 24 #[.val (.ref r0), .val (.ref r1), .val (.int (0 : Int32))] [(.int (0 : Int32)), (.ref lB), (.double uc), (.int (0 : Int32)), (.ref r0)])) rfl rfl (hb hby d11_24) _ ?_
    show Steps p.tables e below (T6.setTop (mkF m 25 #[.val (.ref r0), .val (.ref r1), .val (.int (0 : Int32))] [(.double vc), (.double uc), (.int (0 : Int32)), (.ref r0)])) _
    refine st8.trans ?_
    show Steps p.tables e below (T8.setTop (mkF m 28 #[.val (.ref r0), .val (.ref r1), .val (.int (0 : Int32))] [])) _
    refine XS.iinc X8.here hx rfl (hb hby d11_28) rfl (l' := #[.val (.ref r0), .val (.ref r1), .val (.int (1 : Int32))]) rfl ?_
    show Steps p.tables e below (T8.setTop (mkF m 31 #[.val (.ref r0), .val (.ref r1), .val (.int (1 : Int32))] [])) _
    refine XS.goto X8.here hx rfl (pc0 := 31) (pc' := 2) rfl (hb hby d11_31) (by decide) (by decide) ?_
    show Steps p.tables e below (T8.setTop (mkF m 2 #[.val (.ref r0), .val (.ref r1), .val (.int (1 : Int32))] [])) _
    refine XS.iloadN X8.here hx rfl (hb hby d11_2) rfl ?_
    show Steps p.tables e below (T8.setTop (mkF m 3 #[.val (.ref r0), .val (.ref r1), .val (.int (1 : Int32))] [(.int (1 : Int32))])) _
    refine XS.aloadN X8.here hx rfl (hb hby d11_3) rfl rfl ?_
    show Steps p.tables e below (T8.setTop (mkF m 4 #[.val (.ref r0), .val (.ref r1), .val (.int (1 : Int32))] [(.ref r0), (.int (1 : Int32))])) _
    refine st19 _ ?_
    show Steps p.tables e below (T19.setTop (mkF m 7 #[.val (.ref r0), .val (.ref r1), .val (.int (1 : Int32))] [(.ref hA), (.int (1 : Int32))])) _
    refine X19.arraylength hx (by rw [e19]; exact Ar20.1) (State.isArrayOf_alike hZ.alike Ar20.2.1) (g := (mkF m 7 #[.val (.ref r0), .val (.ref r1), .val (.int (1 : Int32))] [(.ref hA), (.int (1 : Int32))])) rfl rfl (hb hby d11_7) _ ?_
    rw [len_of S20 M20]
    exact kt
  obtain ⟨T22, X22, e22, st22⟩ := getF X19 hx hZ hown (host := "") (Or.inl (hq hw 13 rfl)) Via.refl e19 fa13 (g := (mkF m 14 #[.val (.ref r0), .val (.ref r1), .val (.int (1 : Int32))] [(.ref r1), (.int (1 : Int32)), (.ref r0)])) rfl rfl (hb hby d11_14)
  obtain ⟨cl23, Ar23, q23, S23, M23, H23, G23⟩ := id fa15
  have hin23 : ¬ ((1 : Int32) < 0 ∨ cl23.slots.size ≤ ((1 : Int32)).toNatClampNeg) := inb_of S23 ⟨by decide, by decide⟩
  have hat23 : cl23.slots[((1 : Int32)).toNatClampNeg]? = some (.double ud) := H23.at hin23 rfl
  obtain ⟨T24, X24, e24, st24⟩ := getF X22 hx hZ hown (host := "") (Or.inl (hq hw 15 rfl)) Via.refl e22 fa14 (g := (mkF m 20 #[.val (.ref r0), .val (.ref r1), .val (.int (1 : Int32))] [(.ref r1), (.double ud), (.int (1 : Int32)), (.ref r0)])) rfl rfl (hb hby d11_20)
  obtain ⟨cl25, Ar25, q25, S25, M25, H25, G25⟩ := id fa16
  have hin25 : ¬ ((1 : Int32) < 0 ∨ cl25.slots.size ≤ ((1 : Int32)).toNatClampNeg) := inb_of S25 ⟨by decide, by decide⟩
  have hat25 : cl25.slots[((1 : Int32)).toNatClampNeg]? = some (.double vd) := H25.at hin25 rfl
  obtain ⟨cq26, q26, q26'⟩ := fa9.cell
  obtain ⟨_, _, ⟨T26, L26, k26, n26⟩, -, X26, ⟨Lc26, hQ26, l26, y26, z26⟩, st26⟩ := X24.privateBack hx (y := (⟨"com/example/degree/degree/retrieval/DoubleDoubles", "multiplyByComplement", "(IDD)V"⟩ : MethodName)) hown (mvT hZ (hq hw 57 rfl)) (mvT hZ (hq hw 58 rfl)) (own_selp (mvT hZ (hq hw 4 rfl)) (mvT hZ (hq hw 58 rfl)) (mvP hZ (hq hw 59 rfl)) (by decide)) (Cond.privateMethod_at (mvP hZ (hq hw 59 rfl) (args := #[]))) (mvT hZ (hq hw 60 rfl)) (by decide) (backOf (W := 0) (rm_multiplyByComplement_1 l Z a0 hw [] r0 ud vd hA lA kH kL (own_ch ua va uc vc) ub (own_cl ua va uc vc) vb T8.heap n0 z17 fa9 fa10 fa11 Vh8 Vl8 g_hA g_lA hne hz1 hz2 hn1) hZ (hq hw 60 rfl) (hq hw 5 rfl) (by decide) (by decide)) (g := (mkF m 25 #[.val (.ref r0), .val (.ref r1), .val (.int (1 : Int32))] [(.double vd), (.double ud), (.int (1 : Int32)), (.ref r0)])) rfl (by rw [hml]; rfl) (Steps.refl _) (a := r0) (by rw [e24]; exact q26) q26' (argsL := [(.int (1 : Int32)), (.double ud), (.double vd)]) (rest := []) (lenOf pd_1 rfl) rfl (by show 2 * 0 + _ ≤ _; exact Nat.le_of_eq rfl) (hb hby d11_25) (fun _ _ => ⟨rfl, e24, (by decide : 0 + 0 ≤ _), (by decide : 0 + 0 ≤ _)⟩)
  dsimp only [Pt.U, Pt.locs, Pt.cells, Pt.slots] at X26 l26 y26 z26 st26 hQ26
  subst l26 y26 z26
  obtain ⟨rfl, N26q, K26, Vh26, Vl26⟩ := hQ26
  have N26 := Fr.app N8 N26q
  have fa27 := fa9.keep K26
  have fa28 := fa10.keep K26 (ninS hz1 (ninS hz2 nin0))
  have fa29 := fa11.keep K26 (ninS hz1 (ninS hz2 nin0))
  have fa30 := fa12.keep K26
  have fa31 := fa13.keep K26 (ninS hy0 (ninS hy1 nin0))
  have fa32 := fa14.keep K26 (ninS hy0 (ninS hy1 nin0))
  have fa33 := fa15.keep K26 (ninS hy2 (ninS hy3 nin0))
  have fa34 := fa16.keep K26 (ninS hy4 (ninS hy5 nin0))
  have z35 : n0 ≤ T26.heap.size := Nat.le_trans z17 K26.1
  have kp36 : Keep h0 T26.heap [hA, lA] := kp18.trans K26 (allS (Or.inl (List.mem_of_getElem? (i := 0) rfl)) (allS (Or.inl (List.mem_of_getElem? (i := 1) rfl)) all0))
  obtain ⟨T37, X37, e37, st37⟩ := getF X26 hx hZ hown (host := "") (Or.inl (hq hw 13 rfl)) Via.refl rfl fa28 (g := (mkF m 4 #[.val (.ref r0), .val (.ref r1), .val (.int (2 : Int32))] [(.ref r0), (.int (2 : Int32))])) rfl rfl (hb hby d11_4)
  obtain ⟨cl38, Ar38, q38, S38, M38, H38, G38⟩ := id Vh26
  have G39 : ∀ t, Steps p.tables e below (T37.setTop (mkF m 8 #[.val (.ref r0), .val (.ref r1), .val (.int (2 : Int32))] [(.int (2 : Int32)), (.int (2 : Int32))])) t → Steps p.tables e below (s₁.setTop (entryFrame m #[(.ref r0), (.ref r1)] 3)) t := by
    intro t kt
    refine G21 _ ?_
    show Steps p.tables e below (T19.setTop (mkF m 8 #[.val (.ref r0), .val (.ref r1), .val (.int (1 : Int32))] [(.int (2 : Int32)), (.int (1 : Int32))])) _
    refine XS.icmpNo X19.here hx rfl (hb hby d11_8) rfl (tlt (by decide)).2.1 ?_
    show Steps p.tables e below (T19.setTop (mkF m 11 #[.val (.ref r0), .val (.ref r1), .val (.int (1 : Int32))] [])) _
    refine XS.aloadN X19.here hx rfl (hb hby d11_11) rfl rfl ?_
    show Steps p.tables e below (T19.setTop (mkF m 12 #[.val (.ref r0), .val (.ref r1), .val (.int (1 : Int32))] [(.ref r0)])) _
    refine XS.iloadN X19.here hx rfl (hb hby d11_12) rfl ?_
    show Steps p.tables e below (T19.setTop (mkF m 13 #[.val (.ref r0), .val (.ref r1), .val (.int (1 : Int32))] [(.int (1 : Int32)), (.ref r0)])) _
    refine XS.aloadN X19.here hx rfl (hb hby d11_13) rfl rfl ?_
    show Steps p.tables e below (T19.setTop (mkF m 14 #[.val (.ref r0), .val (.ref r1), .val (.int (1 : Int32))] [(.ref r1), (.int (1 : Int32)), (.ref r0)])) _
    refine st22 _ ?_
    show Steps p.tables e below (T22.setTop (mkF m 17 #[.val (.ref r0), .val (.ref r1), .val (.int (1 : Int32))] [(.ref hB), (.int (1 : Int32)), (.ref r0)])) _
    refine XS.iloadN X22.here hx rfl (hb hby d11_17) rfl ?_
    show Steps p.tables e below (T22.setTop (mkF m 18 #[.val (.ref r0), .val (.ref r1), .val (.int (1 : Int32))] [(.int (1 : Int32)), (.ref hB), (.int (1 : Int32)), (.ref r0)])) _
    refine X22.daload hx (j := (1 : Int32)) (v := (.double ud)) (by rw [e22]; exact Ar23.1) (State.isArrayOf_alike hZ.alike Ar23.2.1) Ar23.2.2 hin23 hat23 (g := (mkF m 18 #[.val (.ref r0), .val (.ref r1), .val (.int (1 : Int32))] [(.int (1 : Int32)), (.ref hB), (.int (1 : Int32)), (.ref r0)])) rfl rfl (hb hby d11_18) _ ?_
    show Steps p.tables e below (T22.setTop (mkF m 19 #[.val (.ref r0), .val (.ref r1), .val (.int (1 : Int32))] [(.double ud), (.int (1 : Int32)), (.ref r0)])) _
    refine XS.aloadN X22.here hx rfl (hb hby d11_19) rfl rfl ?_
    show Steps p.tables e below (T22.setTop (mkF m 20 #[.val (.ref r0), .val (.ref r1), .val (.int (1 : Int32))] [(.ref r1), (.double ud), (.int (1 : Int32)), (.ref r0)])) _
    refine st24 _ ?_
    show Steps p.tables e below (T24.setTop (mkF m 23 #[.val (.ref r0), .val (.ref r1), .val (.int (1 : Int32))] [(.ref lB), (.double ud), (.int (1 : Int32)), (.ref r0)])) _
    refine XS.iloadN X24.here hx rfl (hb hby d11_23) rfl ?_
    show Steps p.tables e below (T24.setTop (mkF m 24 #[.val (.ref r0), .val (.ref r1), .val (.int (1 : Int32))] [(.int (1 : Int32)), (.ref lB), (.double ud), (.int (1 : Int32)), (.ref r0)])) _
    refine X24.daload hx (j := (1 : Int32)) (v := (.double vd)) (by rw [e24]; exact Ar25.1) (State.isArrayOf_alike hZ.alike Ar25.2.1) Ar25.2.2 hin25 hat25 (g := (mkF m 24 #[.val (.ref r0), .val (.ref r1), .val (.int (1 : Int32))] [(.int (1 : Int32)), (.ref lB), (.double ud), (.int (1 : Int32)), (.ref r0)])) rfl rfl (hb hby d11_24) _ ?_
    show Steps p.tables e below (T24.setTop (mkF m 25 #[.val (.ref r0), .val (.ref r1), .val (.int (1 : Int32))] [(.double vd), (.double ud), (.int (1 : Int32)), (.ref r0)])) _
    refine st26.trans ?_
    show Steps p.tables e below (T26.setTop (mkF m 28 #[.val (.ref r0), .val (.ref r1), .val (.int (1 : Int32))] [])) _
    refine XS.iinc X26.here hx rfl (hb hby d11_28) rfl (l' := #[.val (.ref r0), .val (.ref r1), .val (.int (2 : Int32))]) rfl ?_
    show Steps p.tables e below (T26.setTop (mkF m 31 #[.val (.ref r0), .val (.ref r1), .val (.int (2 : Int32))] [])) _
    refine XS.goto X26.here hx rfl (pc0 := 31) (pc' := 2) rfl (hb hby d11_31) (by decide) (by decide) ?_
    show Steps p.tables e below (T26.setTop (mkF m 2 #[.val (.ref r0), .val (.ref r1), .val (.int (2 : Int32))] [])) _
    refine XS.iloadN X26.here hx rfl (hb hby d11_2) rfl ?_
    show Steps p.tables e below (T26.setTop (mkF m 3 #[.val (.ref r0), .val (.ref r1), .val (.int (2 : Int32))] [(.int (2 : Int32))])) _
    refine XS.aloadN X26.here hx rfl (hb hby d11_3) rfl rfl ?_
    show Steps p.tables e below (T26.setTop (mkF m 4 #[.val (.ref r0), .val (.ref r1), .val (.int (2 : Int32))] [(.ref r0), (.int (2 : Int32))])) _
    refine st37 _ ?_
    show Steps p.tables e below (T37.setTop (mkF m 7 #[.val (.ref r0), .val (.ref r1), .val (.int (2 : Int32))] [(.ref hA), (.int (2 : Int32))])) _
    refine X37.arraylength hx (by rw [e37]; exact Ar38.1) (State.isArrayOf_alike hZ.alike Ar38.2.1) (g := (mkF m 7 #[.val (.ref r0), .val (.ref r1), .val (.int (2 : Int32))] [(.ref hA), (.int (2 : Int32))])) rfl rfl (hb hby d11_7) _ ?_
    rw [len_of S38 M38]
    exact kt
  obtain ⟨fs, hr, hrun, hended, hW, hsame⟩ := X37.leave (v := none) (fun _ => rfl)
  refine ⟨_, _, G39 _ ?_, hrun, hended, _, _, rfl, ?_, ⟨_, rfl⟩, hW, hsame.mono (by decide) (by decide)⟩
  · skip
    show Steps p.tables e below (T37.setTop (mkF m 8 #[.val (.ref r0), .val (.ref r1), .val (.int (2 : Int32))] [(.int (2 : Int32)), (.int (2 : Int32))])) _
    refine XS.icmpYes X37.here hx rfl (pc0 := 8) (pc' := 34) rfl (hb hby d11_8) rfl (flt (by decide)).2.1 (by decide) (by decide) ?_
    show Steps p.tables e below (T37.setTop (mkF m 34 #[.val (.ref r0), .val (.ref r1), .val (.int (2 : Int32))] [])) _
    exact X37.returnOut hx Bd.returns (hb hby d11_34) hr
  · show Q11 Z r0 r1 hA lA kH kL ua ub va vb hB lB kI kM uc ud vc vd h0 n0 _ T37.heap _
    rw [e37]
    exact ⟨rfl, N26, kp36, Vh26, Vl26⟩
theorem d1_0 : decode prog_43_method_1_code 0 = .ok (.aload_n 0, 1) := by decide +kernel
theorem d1_1 : decode prog_43_method_1_code 1 = .ok (.invokespecial 1, 3) := by decide +kernel
theorem d1_4 : decode prog_43_method_1_code 4 = .ok (.aload_n 0, 1) := by decide +kernel
theorem d1_5 : decode prog_43_method_1_code 5 = .ok (.iload_n 1, 1) := by decide +kernel
theorem d1_6 : decode prog_43_method_1_code 6 = .ok (.newarray .double, 2) := by decide +kernel
theorem d1_8 : decode prog_43_method_1_code 8 = .ok (.putfield 7, 3) := by decide +kernel
theorem d1_11 : decode prog_43_method_1_code 11 = .ok (.aload_n 0, 1) := by decide +kernel
theorem d1_12 : decode prog_43_method_1_code 12 = .ok (.iload_n 1, 1) := by decide +kernel
theorem d1_13 : decode prog_43_method_1_code 13 = .ok (.newarray .double, 2) := by decide +kernel
theorem d1_15 : decode prog_43_method_1_code 15 = .ok (.putfield 13, 3) := by decide +kernel
theorem d1_18 : decode prog_43_method_1_code 18 = .ok (.return_, 1) := by decide +kernel
def Q1 (Z : State) (r0 : Addr) (h0 : Heap) (n0 : Nat) (v : Option Value) (h : Heap) (L : List Loc) : Prop := v = none ∧ Fr n0 L ∧ Keep h0 h [r0] ∧ Exa Z h r0 "com/example/degree/degree/retrieval/DoubleDoubles" ∧ ∃ (ha la : Addr) (kh kl : ClassId), Fld Z h r0 "com/example/degree/degree/retrieval/DoubleDoubles" "high" "[D" (.ref ha) ∧ Fld Z h r0 "com/example/degree/degree/retrieval/DoubleDoubles" "low" "[D" (.ref la) ∧ Arv Z h ha kh .double (2 : Int32) [(.double 0), (.double 0)] (.double 0) ∧ Arv Z h la kl .double (2 : Int32) [(.double 0), (.double 0)] (.double 0) ∧ h0.size ≤ ha ∧ h0.size ≤ la ∧ ha ≠ la
theorem ef_rm1 (m : MethodId) (x0 : Addr) (x1 : Int32) : entryFrame m #[(.ref x0), (.int x1)] 2 = mkF m 0 #[.val (.ref x0), .val (.int x1)] [] := by first | (simp [entryFrame, mkF, argsToLocals, Value.category]; done) | rfl
set_option maxRecDepth 65536 in
set_option maxHeartbeats 40000000 in
theorem rm1 (l : Launch) (Z : State) (a0 : Array Value) (hw : ∀ d ∈ tables_1, d.before a0 Z = true) (ws : List Jvm.Cond) (r0 : Addr) (h0 : Heap) (n0 : Nat) (Z0 : n0 ≤ h0.size) (E0 : Exa Z h0 r0 "com/example/degree/degree/retrieval/DoubleDoubles") (Fh : Fld Z h0 r0 "com/example/degree/degree/retrieval/DoubleDoubles" "high" "[D" .null) (Fl : Fld Z h0 r0 "com/example/degree/degree/retrieval/DoubleDoubles" "low" "[D" .null) (g_r0 : n0 ≤ r0) :
    MetFree l (⟨"com/example/degree/degree/retrieval/DoubleDoubles", "<init>", "(I)V"⟩ : MethodName) (head1 (Jvm.Cond.code (⟨"com/example/degree/degree/retrieval/DoubleDoubles", "<init>", "(I)V"⟩ : MethodName) prog_43_method_1_code 2 none :: ws) ({ frames := 1, cells := 2, slots := 4, locals := 12 } : Room)) (fun a U => a = #[(.ref r0), (.int (2 : Int32))] ∧ Z.Warmed39 U.vm ∧ U.heap = h0) (fun _ _ _ _ _ => True) (fun _ U o U' => ∃ v L, o = .returned v ∧ Q1 Z r0 h0 n0 v U'.heap L ∧ FrameEnd U o U' L ({ frames := 1, cells := 2, slots := 4, locals := 12 } : Room).cells ({ frames := 1, cells := 2, slots := 4, locals := 12 } : Room).slots) := by
  refine MetFree.of_bodySF (plainFor_of_name pnc_com_example_degree_degree_retrieval_DoubleDoubles) hisR ?_
  intro p e s m args below meth c s₁ Bd hml0 hP hK
  obtain ⟨rfl, hZ, hh⟩ := hP
  have hx := Bd.exec
  have hby := Bd.bytes
  have hml : c.maxLocals = 2 := hml0
  have hown : s.vm.findClass "com/example/degree/degree/retrieval/DoubleDoubles" = some m.cls := findClass_of_methodNamed Bd.named
  have hnm := (name_of_methodNamed Bd.named Bd.method).1
  have X0 : Stand p l e ({ frames := 1, cells := 2, slots := 4, locals := 12 } : Room) s m #[(.ref r0), (.int (2 : Int32))] below meth c s₁ [] 0 0 := Stand.of_body Bd
  have e0 : s₁.heap = h0 := by rw [← hh, Bd.state]; rfl
  have N0 := Fr.nil n0
  have kp0 : Keep h0 h0 [r0] := Keep.refl _ _
  have G0 : ∀ t, Steps p.tables e below (s₁.setTop (mkF m 0 #[.val (.ref r0), .val (.int (2 : Int32))] [])) t → Steps p.tables e below (s₁.setTop (entryFrame m #[(.ref r0), (.int (2 : Int32))] 2)) t := fun t k => castTop (ef_rm1 m r0 (2 : Int32)) k
  obtain ⟨T1, X1, e1, st1⟩ := initO X0 hx hZ hown (hq hw 9 rfl) (hq hw 10 rfl) (hq hw 11 rfl) e0 (g := (mkF m 1 #[.val (.ref r0), .val (.int (2 : Int32))] [(.ref r0)])) rfl (by rw [hml]; rfl) rfl (hb hby d1_1) (by decide) (W := 0) (by show 2 * 0 + _ ≤ _; exact Nat.le_of_eq rfl) (by decide)
  obtain ⟨T2, h2, k2, X2, e2, E2, A2, st2⟩ := newP X1 hx hZ (hq hw 12 rfl) e1 (g := (mkF m 6 #[.val (.ref r0), .val (.int (2 : Int32))] [(.int (2 : Int32)), (.ref r0)])) rfl (hb hby d1_6) rfl (by decide) (cap := 2) (by decide) (by decide) (by decide) (by decide)
  obtain ⟨b2, g2⟩ : ∃ z, z = h0.size := ⟨_, rfl⟩
  rw [← g2] at A2 st2
  have g_b2 : n0 ≤ b2 := Nat.le_trans Z0 (Nat.le_of_eq g2.symm)
  have sz_b2 : h0.size ≤ b2 := Nat.le_trans kp0.1 (Nat.le_of_eq g2.symm)
  have ne_r0_b2 : r0 ≠ b2 := Nat.ne_of_lt (Nat.lt_of_lt_of_le E0.lt (Nat.le_of_eq g2.symm))
  have fa3 := E0.ext E2
  have fa4 := Fh.ext E2
  have fa5 := Fl.ext E2
  have z6 : n0 ≤ h2.size := Nat.le_trans Z0 E2.1
  have kp7 : Keep h0 h2 [r0] := kp0.ext E2
  have fa8 : Arv Z h2 b2 k2 .double (2 : Int32) [(.double 0), (.double 0)] (.double 0) := (Arv.new A2 (by decide)).pad (pad_rep [] (.double 0) 2)
  obtain ⟨T9, h9, X9, e9, W9, st9⟩ := putF X2 hx hZ hown (host := "") (Or.inl (hq hw 13 rfl)) Via.refl e2 fa4 fa3 (Or.inr ⟨(hq hw 14 rfl), rfl, hnm⟩) (hq hw 4 rfl) (ty := (.array .double)) (by decide) rfl rfl (g := (mkF m 8 #[.val (.ref r0), .val (.int (2 : Int32))] [(.ref b2), (.ref r0)])) rfl rfl (hb hby d1_8)
  have fa10 := fa3.wr W9
  have fa11 : Fld Z h9 r0 "com/example/degree/degree/retrieval/DoubleDoubles" "high" "[D" (.ref b2) := fa4.same W9
  have fa12 := fa5.other W9 (Or.inr (slot_ne (Or.inr (hq hw 16 rfl)) (Or.inr (hq hw 14 rfl)) (by decide) (t := (.array .double)) (t' := (.array .double)) (by decide) (by decide)))
  have fa13 := fa8.other W9 (Ne.symm ne_r0_b2)
  have z14 : n0 ≤ h9.size := Nat.le_trans z6 (Nat.le_of_eq W9.size.symm)
  have kp15 : Keep h0 h9 [r0] := kp7.wr W9 (Or.inl (List.mem_of_getElem? (i := 0) rfl))
  have N9 := Fr.snoc X9 N0 g_r0
  obtain ⟨T16, h16, k16, X16, e16, E16, A16, st16⟩ := newP X9 hx hZ (hq hw 12 rfl) e9 (g := (mkF m 13 #[.val (.ref r0), .val (.int (2 : Int32))] [(.int (2 : Int32)), (.ref r0)])) rfl (hb hby d1_13) rfl (by decide) (cap := 2) (by decide) (by decide) (by decide) (by decide)
  obtain ⟨b16, g16⟩ : ∃ z, z = h9.size := ⟨_, rfl⟩
  rw [← g16] at A16 st16
  have g_b16 : n0 ≤ b16 := Nat.le_trans z14 (Nat.le_of_eq g16.symm)
  have sz_b16 : h0.size ≤ b16 := Nat.le_trans kp15.1 (Nat.le_of_eq g16.symm)
  have ne_r0_b16 : r0 ≠ b16 := Nat.ne_of_lt (Nat.lt_of_lt_of_le fa10.lt (Nat.le_of_eq g16.symm))
  have ne_b2_b16 : b2 ≠ b16 := Nat.ne_of_lt (Nat.lt_of_lt_of_le fa13.lt (Nat.le_of_eq g16.symm))
  have fa17 := fa10.ext E16
  have fa18 := fa11.ext E16
  have fa19 := fa12.ext E16
  have fa20 := fa13.ext E16
  have z21 : n0 ≤ h16.size := Nat.le_trans z14 E16.1
  have kp22 : Keep h0 h16 [r0] := kp15.ext E16
  have fa23 : Arv Z h16 b16 k16 .double (2 : Int32) [(.double 0), (.double 0)] (.double 0) := (Arv.new A16 (by decide)).pad (pad_rep [] (.double 0) 2)
  obtain ⟨T24, h24, X24, e24, W24, st24⟩ := putF X16 hx hZ hown (host := "") (Or.inl (hq hw 15 rfl)) Via.refl e16 fa19 fa17 (Or.inr ⟨(hq hw 16 rfl), rfl, hnm⟩) (hq hw 4 rfl) (ty := (.array .double)) (by decide) rfl rfl (g := (mkF m 15 #[.val (.ref r0), .val (.int (2 : Int32))] [(.ref b16), (.ref r0)])) rfl rfl (hb hby d1_15)
  have fa25 := fa17.wr W24
  have fa26 := fa18.other W24 (Or.inr (slot_ne (Or.inr (hq hw 14 rfl)) (Or.inr (hq hw 16 rfl)) (by decide) (t := (.array .double)) (t' := (.array .double)) (by decide) (by decide)))
  have fa27 : Fld Z h24 r0 "com/example/degree/degree/retrieval/DoubleDoubles" "low" "[D" (.ref b16) := fa19.same W24
  have fa28 := fa20.other W24 (Ne.symm ne_r0_b2)
  have fa29 := fa23.other W24 (Ne.symm ne_r0_b16)
  have z30 : n0 ≤ h24.size := Nat.le_trans z21 (Nat.le_of_eq W24.size.symm)
  have kp31 : Keep h0 h24 [r0] := kp22.wr W24 (Or.inl (List.mem_of_getElem? (i := 0) rfl))
  have N24 := Fr.snoc X24 N9 g_r0
  obtain ⟨fs, hr, hrun, hended, hW, hsame⟩ := X24.leave (v := none) (fun _ => rfl)
  refine ⟨_, _, G0 _ ?_, hrun, hended, _, _, rfl, ?_, ⟨_, rfl⟩, hW, hsame.mono (by decide) (by decide)⟩
  · skip
    show Steps p.tables e below (s₁.setTop (mkF m 0 #[.val (.ref r0), .val (.int (2 : Int32))] [])) _
    refine XS.aloadN X0.here hx rfl (hb hby d1_0) rfl rfl ?_
    show Steps p.tables e below (s₁.setTop (mkF m 1 #[.val (.ref r0), .val (.int (2 : Int32))] [(.ref r0)])) _
    refine st1 _ ?_
    show Steps p.tables e below (T1.setTop (mkF m 4 #[.val (.ref r0), .val (.int (2 : Int32))] [])) _
    refine XS.aloadN X1.here hx rfl (hb hby d1_4) rfl rfl ?_
    show Steps p.tables e below (T1.setTop (mkF m 5 #[.val (.ref r0), .val (.int (2 : Int32))] [(.ref r0)])) _
    refine XS.iloadN X1.here hx rfl (hb hby d1_5) rfl ?_
    show Steps p.tables e below (T1.setTop (mkF m 6 #[.val (.ref r0), .val (.int (2 : Int32))] [(.int (2 : Int32)), (.ref r0)])) _
    refine st2 _ ?_
    show Steps p.tables e below (T2.setTop (mkF m 8 #[.val (.ref r0), .val (.int (2 : Int32))] [(.ref b2), (.ref r0)])) _
    refine st9 _ ?_
    show Steps p.tables e below (T9.setTop (mkF m 11 #[.val (.ref r0), .val (.int (2 : Int32))] [])) _
    refine XS.aloadN X9.here hx rfl (hb hby d1_11) rfl rfl ?_
    show Steps p.tables e below (T9.setTop (mkF m 12 #[.val (.ref r0), .val (.int (2 : Int32))] [(.ref r0)])) _
    refine XS.iloadN X9.here hx rfl (hb hby d1_12) rfl ?_
    show Steps p.tables e below (T9.setTop (mkF m 13 #[.val (.ref r0), .val (.int (2 : Int32))] [(.int (2 : Int32)), (.ref r0)])) _
    refine st16 _ ?_
    show Steps p.tables e below (T16.setTop (mkF m 15 #[.val (.ref r0), .val (.int (2 : Int32))] [(.ref b16), (.ref r0)])) _
    refine st24 _ ?_
    show Steps p.tables e below (T24.setTop (mkF m 18 #[.val (.ref r0), .val (.int (2 : Int32))] [])) _
    exact X24.returnOut hx Bd.returns (hb hby d1_18) hr
  · show Q1 Z r0 h0 n0 _ T24.heap _
    rw [e24]
    exact ⟨rfl, N24, kp31, fa25, b2, b16, k2, k16, fa26, fa27, fa28, fa29, sz_b2, sz_b16, ne_b2_b16⟩
theorem own_ok6 {k : Nat} {a b s : UInt64} (ha : own_Bd a k) (hb : own_Bd b k) (hs : own_Bd s k) (h1 : 1126 ≤ k) (h2 : k + 4 < 3150) : ok6 a b s ∧ own_Bd (own_f6 a b s) (k + 4) := by
  have e1 : own_Bd (FP.dsub s a) (k + 1) := own_bsub hs ha h1 (by omega)
  have e2 : own_Bd (FP.dsub s (FP.dsub s a)) (k + 2) := own_bsub (own_bm hs (by omega)) e1 (by omega) (by omega)
  have e3 : own_Bd (FP.dsub a (FP.dsub s (FP.dsub s a))) (k + 3) := own_bsub (own_bm ha (by omega)) e2 (by omega) (by omega)
  have e4 : own_Bd (FP.dsub b (FP.dsub s a)) (k + 2) := own_bsub (own_bm hb (by omega)) e1 (by omega) (by omega)
  have e5 : own_Bd (own_f6 a b s) (k + 4) := own_badd e3 (own_bm e4 (by omega)) (by omega) (by omega)
  exact ⟨⟨own_bn e1, own_bn e2, own_bn e3, own_bn e4, own_bn e5, trivial⟩, e5⟩
theorem own_ok4 {k : Nat} {a b p : UInt64} (ha : own_Bd a k) (hb : own_Bd b k) (hp : own_Bd p k) (J : Nat) (hJ : J + 2140 = 2 * k) (h1 : 2200 ≤ k) (h2 : J + 4 < 3150) : ok4 a b p ∧ own_Bd (own_f4 a b p) (J + 4) := by
  have a1 : own_Bd (FP.dmul 4728779608772575232 a) (k + 28) := own_bmul own_bC ha _ (by omega) (by omega) (by omega)
  have a2 : own_Bd (FP.dsub (FP.dmul 4728779608772575232 a) a) (k + 29) := own_bsub a1 (own_bm ha (by omega)) (by omega) (by omega)
  have a3 : own_Bd (own_hi a) (k + 30) := own_bsub (own_bm a1 (by omega)) a2 (by omega) (by omega)
  have a4 : own_Bd (FP.dsub a (own_hi a)) (k + 31) := own_bsub (own_bm ha (by omega)) a3 (by omega) (by omega)
  have b1 : own_Bd (FP.dmul 4728779608772575232 b) (k + 28) := own_bmul own_bC hb _ (by omega) (by omega) (by omega)
  have b2 : own_Bd (FP.dsub (FP.dmul 4728779608772575232 b) b) (k + 29) := own_bsub b1 (own_bm hb (by omega)) (by omega) (by omega)
  have b3 : own_Bd (own_hi b) (k + 30) := own_bsub (own_bm b1 (by omega)) b2 (by omega) (by omega)
  have b4 : own_Bd (FP.dsub b (own_hi b)) (k + 31) := own_bsub (own_bm hb (by omega)) b3 (by omega) (by omega)
  have c1 : own_Bd (FP.dmul (own_hi a) (own_hi b)) J := own_bmul a3 b3 _ (by omega) (by omega) (by omega)
  have c2 : own_Bd (FP.dsub (FP.dmul (own_hi a) (own_hi b)) p) (J + 1) := own_bsub c1 (own_bm hp (by omega)) (by omega) (by omega)
  have c3 : own_Bd (FP.dmul (own_hi a) (FP.dsub b (own_hi b))) (J + 1) := own_bmul a3 b4 _ (by omega) (by omega) (by omega)
  have c4 : own_Bd (FP.dadd (FP.dsub (FP.dmul (own_hi a) (own_hi b)) p) (FP.dmul (own_hi a) (FP.dsub b (own_hi b)))) (J + 2) := own_badd c2 c3 (by omega) (by omega)
  have c5 : own_Bd (FP.dmul (FP.dsub a (own_hi a)) (own_hi b)) (J + 1) := own_bmul a4 b3 _ (by omega) (by omega) (by omega)
  have c6 : own_Bd (FP.dadd (FP.dadd (FP.dsub (FP.dmul (own_hi a) (own_hi b)) p) (FP.dmul (own_hi a) (FP.dsub b (own_hi b)))) (FP.dmul (FP.dsub a (own_hi a)) (own_hi b))) (J + 3) := own_badd c4 (own_bm c5 (by omega)) (by omega) (by omega)
  have c7 : own_Bd (FP.dmul (FP.dsub a (own_hi a)) (FP.dsub b (own_hi b))) (J + 2) := own_bmul a4 b4 _ (by omega) (by omega) (by omega)
  have c8 : own_Bd (own_f4 a b p) (J + 4) := own_badd c6 (own_bm c7 (by omega)) (by omega) (by omega)
  exact ⟨⟨own_bn a1, own_bn a2, own_bn a3, own_bn a4, own_bn b1, own_bn b2, own_bn b3, own_bn b4, own_bn c1, own_bn c2, own_bn c3, own_bn c4, own_bn c5, own_bn c6, own_bn c7, own_bn c8, trivial⟩, c8⟩
theorem own_ok5 {k : Nat} {a b : UInt64} (ha : own_Bd a k) (hb : own_Bd b k) (h1 : 1126 ≤ k) (h2 : k + 5 < 3150) : ok5_0 a b ∧ own_Bd (FP.dadd a b) (k + 1) ∧ own_Bd (own_f6 a b (FP.dadd a b)) (k + 5) := by
  have e1 : own_Bd (FP.dadd a b) (k + 1) := own_badd ha hb h1 (by omega)
  have e2 := own_ok6 (own_bm ha (l := k + 1) (by omega)) (own_bm hb (by omega)) e1 (by omega) (by omega)
  exact ⟨⟨own_bn e1, e2.1, trivial⟩, e1, e2.2⟩
theorem own_ok51 {a b : UInt64} (h : ok5_0 a b) : ok5_1 a b := h
theorem own_ln (n : Int64) (h0 : 0 ≤ n.toInt) (h1 : n.toInt ≤ 65536) : own_Bd (FP.l2d n) 2217 := by
  refine ⟨_, own_l2d n h0 (by omega), ?_⟩
  rw [Int.natAbs_natCast, show 2217 = 17 + 2200 from rfl, own_wa 17 2200]
  refine Nat.mul_le_mul_right _ ?_
  rw [← own_wd]; omega
theorem own_ok3 (n d : Int64) (h0 : 0 ≤ n.toInt) (h1 : n.toInt ≤ 65536) (d0 : 1 ≤ d.toInt) (d1 : d.toInt ≤ 65536) : ok3_0 n d ∧ own_Bd (own_qh n d) 2334 ∧ own_Bd (own_ql n d) 2338 := by
  have hn := own_ln n h0 h1
  have hd := own_ln d (by omega) d1
  have hD : own_Val (FP.l2d d) ((d.toInt.toNat * own_w 2200 : Nat) : Int) := own_l2d d (by omega) (by omega)
  have hW : ((own_w 2200 : Nat) : Int) ≤ ((d.toInt.toNat * own_w 2200 : Nat) : Int) := by
    have : 1 * own_w 2200 ≤ d.toInt.toNat * own_w 2200 := Nat.mul_le_mul_right _ (by omega)
    omega
  have q : own_Bd (own_q n d) 2217 := own_bdiv hn hD hW (by decide) (by decide)
  have p : own_Bd (own_p n d) 2234 := own_bmul q hd _ (by decide) (by decide) (by decide)
  have f := own_ok4 (own_bm q (l := 2234) (by decide)) (own_bm hd (by decide)) p 2328 (by decide) (by decide) (by decide)
  have s1 : own_Bd (FP.dsub (FP.l2d n) (own_p n d)) 2235 := own_bsub (own_bm hn (by decide)) p (by decide) (by decide)
  have s2 : own_Bd (FP.dsub (FP.dsub (FP.l2d n) (own_p n d)) (own_f4 (own_q n d) (FP.l2d d) (own_p n d))) 2333 := own_bsub (own_bm s1 (by decide)) f.2 (by decide) (by decide)
  have r : own_Bd (own_r n d) 2333 := own_bdiv s2 hD hW (by decide) (by decide)
  have g := own_ok5 (own_bm q (l := 2333) (by decide)) r (by decide) (by decide)
  exact ⟨⟨own_bn q, own_bn p, f.1, own_bn s1, own_bn s2, own_bn r, g.1, trivial⟩, g.2.1, g.2.2⟩
theorem own_ok31 {n d : Int64} (h : ok3_0 n d) : ok3_1 n d := h
theorem own_ok13 {hh ub ll vb a b : UInt64} (h1 : own_Bd hh 2200) (h2 : own_Bd ll 2200) (ha : own_Bd a 2347) (hb : own_Bd b 2351) : ok13_0 hh ub ll vb a b := by
  have p : own_Bd (FP.dmul hh a) 2347 := own_bmul h1 ha _ (by decide) (by decide) (by decide)
  have f := own_ok4 (own_bm h1 (l := 2347) (by decide)) ha p 2554 (by decide) (by decide) (by decide)
  have m1 : own_Bd (FP.dmul hh b) 2351 := own_bmul h1 hb _ (by decide) (by decide) (by decide)
  have m2 : own_Bd (FP.dmul ll a) 2347 := own_bmul h2 ha _ (by decide) (by decide) (by decide)
  have s1 : own_Bd (FP.dadd (FP.dmul hh b) (FP.dmul ll a)) 2352 := own_badd m1 (own_bm m2 (by decide)) (by decide) (by decide)
  have s2 : own_Bd (own_fml hh ll a b) 2559 := own_badd f.2 (own_bm s1 (by decide)) (by decide) (by decide)
  have g := own_ok5 (own_bm p (l := 2559) (by decide)) s2 (by decide) (by decide)
  exact ⟨own_bn p, f.1, own_bn m1, own_bn m2, own_bn s1, own_bn s2, g.1, trivial⟩
theorem own_ok131 {ua hh va ll a b : UInt64} (h : ok13_0 hh ua ll va a b) : ok13_1 ua hh va ll a b := h
theorem own_ok12 {hh ub ll vb a b : UInt64} (h1 : own_Bd hh 2200) (h2 : own_Bd ll 2200) (ha : own_Bd a 2340) (hb : own_Bd b 2340) : ok12_0 hh ub ll vb a b := by
  have w : own_Bd (own_fw a) 2341 := own_bsub (own_bm own_b1 (by decide)) ha (by decide) (by decide)
  have e1 := own_ok6 (own_bm own_b1 (l := 2341) (by decide)) (own_bm (own_bnegF ha) (by decide)) w (by decide) (by decide)
  have s1 : own_Bd (own_fe a b) 2346 := own_bsub e1.2 (own_bm hb (by decide)) (by decide) (by decide)
  have s2 : own_Bd (own_fx a b) 2347 := own_badd (own_bm w (by decide)) s1 (by decide) (by decide)
  have e2 := own_ok6 (own_bm w (l := 2347) (by decide)) (own_bm s1 (by decide)) s2 (by decide) (by decide)
  exact ⟨own_bn w, e1.1, own_bn s1, own_bn s2, e2.1, own_ok13 h1 h2 s2 e2.2, trivial⟩
theorem own_ok121 {ua hh va ll a b : UInt64} (h : ok12_0 hh ua ll va a b) : ok12_1 ua hh va ll a b := h
theorem own_ok11 {a b a' b' : UInt64} (ha : own_Bd a 2340) (hb : own_Bd b 2340) (ha' : own_Bd a' 2340) (hb' : own_Bd b' 2340) : ok11 FP.dconst1 FP.dconst1 FP.dconst0 FP.dconst0 a a' b b' :=
  ⟨own_ok12 own_b1 own_b0 ha hb, own_ok121 (own_ok12 own_b1 own_b0 ha' hb'), trivial⟩
theorem own_mr {P : Prop} [Decidable P] {j b : Int64} (h : j = if P then (b &&& (9007199254740991 : Int64)) else (9007199254740992 : Int64)) : 0 ≤ j.toInt ∧ j.toInt ≤ 9007199254740992 := by
  have e := c_maskL b 9007199254740991 53 (by decide) (by decide)
  have e2 : (9007199254740992 : Int64).toInt = 9007199254740992 := by decide
  have e3 : ((2 ^ 53 : Nat) : Int) = 9007199254740992 := by decide
  rw [e3] at e
  subst h
  split
  · rw [e]; omega
  · rw [e2]; omega
theorem own_dr {d : Int64} {y : Int32} (h : d = (((y &&& (65535 : Int32)).toInt64) + (1 : Int64))) : 1 ≤ d.toInt ∧ d.toInt ≤ 65536 := by
  have e := c_and y 65535 (by decide)
  have e1 := c_ladd ((y &&& (65535 : Int32)).toInt64) 1
  have e2 := c_i2l (y &&& (65535 : Int32))
  have e3 : (1 : Int64).toInt = 1 := by decide
  have e4 : (65535 : Int32).toInt = 65535 := by decide
  have r := rng64 d
  rw [← h] at e1
  omega
theorem own_nz {d : Int64} (h : 1 ≤ d.toInt ∧ d.toInt ≤ 65536) : d ≠ 0 := fun q => by
  subst q
  have e : (0 : Int64).toInt = 0 := by decide
  omega
theorem own_nr {n d : Int64} {y : Int32} (hd : 1 ≤ d.toInt ∧ d.toInt ≤ 65536) (h : n = (((y &&& (65535 : Int32)).toInt64) - ((((y &&& (65535 : Int32)).toInt64) / d) * d))) : 0 ≤ n.toInt ∧ n.toInt < d.toInt := by
  have e := c_and y 65535 (by decide)
  have e2 := c_i2l (y &&& (65535 : Int32))
  have e1 := (c_lrem ((y &&& (65535 : Int32)).toInt64) d d.toInt rfl).1 (by omega)
  rw [← h] at e1
  have m1 := Int.emod_nonneg ((y &&& (65535 : Int32)).toInt64).toInt (show d.toInt ≠ 0 by omega)
  have m2 := Int.emod_lt_of_pos ((y &&& (65535 : Int32)).toInt64).toInt (show 0 < d.toInt by omega)
  omega
theorem own_br {n d b : Int64} (hd : 1 ≤ d.toInt ∧ d.toInt ≤ 65536) (hn : 0 ≤ n.toInt ∧ n.toInt < d.toInt) (h : b = d - n) : 0 ≤ b.toInt ∧ b.toInt ≤ 65536 := by
  have e := c_lsub d n
  have r := rng64 b
  rw [← h] at e
  omega
theorem own_bv {n : Int64} {v : UInt64} (h : 0 ≤ n.toInt ∧ n.toInt ≤ 9007199254740992) (hv : v = FP.ddiv (FP.l2d n) 4845873199050653696) : own_Bd v 2340 := by
  refine ⟨_, hv ▸ own_vm n h.1 h.2, ?_⟩
  rw [Int.natAbs_natCast]
  have e : own_w 2200 = 9007199254740992 * own_w 2147 := by rw [show 9007199254740992 = own_w 53 by rw [← own_wd], ← own_wa]
  refine Nat.le_trans ?_ (own_wle (show 2200 ≤ 2340 by decide))
  rw [e]; exact Nat.mul_le_mul_right _ (by omega)
theorem own_sv {n : Int64} {v : UInt64} (h : 0 ≤ n.toInt ∧ n.toInt ≤ 9007199254740992) (hv : v = FP.ddiv (FP.l2d n) 4845873199050653696) : Jvm.Free.Fl.NoNaN64 (FP.dsub FP.dconst1 v) :=
  own_bn (own_bsub (own_bm own_b1 (l := 2340) (by decide)) (own_bv h hv) (by decide) (by decide))
theorem own_same {v : UInt64} {k : Nat} (h : own_Bd v k) (o : CmpOp) : cmpValue (FP.dcmp v v) o = 0 := by
  obtain ⟨V, h1, _⟩ := h; exact own_eq0 h1 h1 o

theorem pd_3 : parseMethodDescriptor "(I)V" = some ⟨[.int], none⟩ := by decide +kernel
theorem pd_4 : parseMethodDescriptor "(IJJ)V" = some ⟨[.int, .long, .long], none⟩ := by decide +kernel
theorem pd_5 : parseMethodDescriptor "(I)D" = some ⟨[.int], some .double⟩ := by decide +kernel
theorem pd_6 : parseMethodDescriptor "(ID)V" = some ⟨[.int, .double], none⟩ := by decide +kernel
theorem pd_7 : parseMethodDescriptor "(D)V" = some ⟨[.double], none⟩ := by decide +kernel
theorem pd_8 : parseMethodDescriptor "(Lcom/example/degree/degree/retrieval/DoubleDoubles;)V" = some ⟨[(.object "com/example/degree/degree/retrieval/DoubleDoubles")], none⟩ := by decide +kernel
def Q0 (Z : State) (p0 : Int32) (q1 : Int64) (p2 : Int32) (p3 : Int32) (h0 : Heap) (n0 : Nat) (v : Option Value) (h : Heap) (L : List Loc) : Prop := v = some (.int (1 : Int32)) ∧ Fr n0 L
theorem ef_rm0 (m : MethodId) (x0 : Int32) (x1 : Int64) (x2 : Int32) (x3 : Int32) : entryFrame m #[(.int x0), (.long x1), (.int x2), (.int x3)] maxLocals = mkF m 0 #[.val (.int x0), .val (.long x1), .second, .val (.int x2), .val (.int x3), .unset, .unset, .unset, .unset, .unset, .unset, .unset, .unset, .unset, .unset, .unset, .unset, .unset, .unset, .unset, .unset, .unset] [] := by first | (simp [entryFrame, mkF, argsToLocals, Value.category, maxLocals]; done) | rfl
theorem pnc_com_example_degree_degree_retrieval_DoubleDoublesSetPinLaw : plainName "com/example/degree/degree/retrieval/DoubleDoublesSetPinLaw" = true := by first | (simp [plainName, overriddenIn]; done) | decide +kernel
set_option maxRecDepth 65536 in
set_option maxHeartbeats 40000000 in
theorem rm0 (l : Launch) (Z : State) (a0 : Array Value) (hw : ∀ d ∈ tables_1, d.before a0 Z = true) (ws : List Jvm.Cond) (p0 : Int32) (q1 : Int64) (p2 : Int32) (p3 : Int32) (h0 : Heap) (n0 : Nat) (Z0 : n0 ≤ h0.size) :
    MetFree l x (head1 (Jvm.Cond.code x code maxLocals ret :: ws) room_1) (fun a U => a = #[(.int p0), (.long q1), (.int p2), (.int p3)] ∧ Z.Warmed39 U.vm ∧ U.heap = h0) (fun _ _ _ _ _ => True) (fun _ U o U' => ∃ v L, o = .returned v ∧ Q0 Z p0 q1 p2 p3 h0 n0 v U'.heap L ∧ FrameEnd U o U' L room_1.cells room_1.slots) := by
  refine MetFree.of_bodySF (plainFor_of_name pnc_com_example_degree_degree_retrieval_DoubleDoublesSetPinLaw) hisR ?_
  intro p e s m args below meth c s₁ Bd hml0 hP hK
  obtain ⟨rfl, hZ, hh⟩ := hP
  have hx := Bd.exec
  have hby := Bd.bytes
  have hml : c.maxLocals = 22 := hml0
  have hown : s.vm.findClass "com/example/degree/degree/retrieval/DoubleDoublesSetPinLaw" = some m.cls := findClass_of_methodNamed Bd.named
  have hnm := (name_of_methodNamed Bd.named Bd.method).1
  have X0 : Stand p l e room_1 s m #[(.int p0), (.long q1), (.int p2), (.int p3)] below meth c s₁ [] 0 0 := Stand.of_body Bd
  have e0 : s₁.heap = h0 := by rw [← hh, Bd.state]; rfl
  have N0 := Fr.nil n0
  have kp0 : Keep h0 h0 [] := Keep.refl _ _
  have G0 : ∀ t, Steps p.tables e below (s₁.setTop (mkF m 0 #[.val (.int p0), .val (.long q1), .second, .val (.int p2), .val (.int p3), .unset, .unset, .unset, .unset, .unset, .unset, .unset, .unset, .unset, .unset, .unset, .unset, .unset, .unset, .unset, .unset, .unset] [])) t → Steps p.tables e below (s₁.setTop (entryFrame m #[(.int p0), (.long q1), (.int p2), (.int p3)] maxLocals)) t := fun t k => castTop (ef_rm0 m p0 q1 p2 p3) k
  have G1 : ∀ t, Steps p.tables e below (s₁.setTop (mkF m 5 #[.val (.int p0), .val (.long q1), .second, .val (.int p2), .val (.int p3), .val (.int (p0 &&& (1 : Int32))), .unset, .unset, .unset, .unset, .unset, .unset, .unset, .unset, .unset, .unset, .unset, .unset, .unset, .unset, .unset, .unset] [])) t → Steps p.tables e below (s₁.setTop (entryFrame m #[(.int p0), (.long q1), (.int p2), (.int p3)] maxLocals)) t := by
    intro t kt
    refine G0 _ ?_
    show Steps p.tables e below (s₁.setTop (mkF m 0 #[.val (.int p0), .val (.long q1), .second, .val (.int p2), .val (.int p3), .unset, .unset, .unset, .unset, .unset, .unset, .unset, .unset, .unset, .unset, .unset, .unset, .unset, .unset, .unset, .unset, .unset] [])) _
    refine XS.iloadN X0.here hx rfl (hb hby at_0) rfl ?_
    show Steps p.tables e below (s₁.setTop (mkF m 1 #[.val (.int p0), .val (.long q1), .second, .val (.int p2), .val (.int p3), .unset, .unset, .unset, .unset, .unset, .unset, .unset, .unset, .unset, .unset, .unset, .unset, .unset, .unset, .unset, .unset, .unset] [(.int p0)])) _
    refine XS.iconst X0.here hx rfl (hb hby at_1) ?_
    show Steps p.tables e below (s₁.setTop (mkF m 2 #[.val (.int p0), .val (.long q1), .second, .val (.int p2), .val (.int p3), .unset, .unset, .unset, .unset, .unset, .unset, .unset, .unset, .unset, .unset, .unset, .unset, .unset, .unset, .unset, .unset, .unset] [(.int (1 : Int32)), (.int p0)])) _
    refine XS.iand X0.here hx rfl (hb hby at_2) rfl ?_
    show Steps p.tables e below (s₁.setTop (mkF m 3 #[.val (.int p0), .val (.long q1), .second, .val (.int p2), .val (.int p3), .unset, .unset, .unset, .unset, .unset, .unset, .unset, .unset, .unset, .unset, .unset, .unset, .unset, .unset, .unset, .unset, .unset] [(.int (p0 &&& (1 : Int32)))])) _
    refine XS.istore X0.here hx rfl (hb hby at_3) rfl (l' := #[.val (.int p0), .val (.long q1), .second, .val (.int p2), .val (.int p3), .val (.int (p0 &&& (1 : Int32))), .unset, .unset, .unset, .unset, .unset, .unset, .unset, .unset, .unset, .unset, .unset, .unset, .unset, .unset, .unset, .unset]) rfl ?_
    exact kt
  rcases and_one p0 with hi | hi
  · skip
    have Gi2 := G1
    rw [hi] at Gi2
    have G3 : ∀ t, Steps p.tables e below (s₁.setTop (mkF m 23 #[.val (.int p0), .val (.long q1), .second, .val (.int p2), .val (.int p3), .val (.int (0 : Int32)), .val (.int (1 : Int32)), .val (.long (((((p2.toUInt32 >>> ((16 : Int32) &&& 31).toUInt32).toInt32) &&& (65535 : Int32)).toInt64) + (1 : Int64))), .second, .unset, .unset, .unset, .unset, .unset, .unset, .unset, .unset, .unset, .unset, .unset, .unset, .unset] [])) t → Steps p.tables e below (s₁.setTop (entryFrame m #[(.int p0), (.long q1), (.int p2), (.int p3)] maxLocals)) t := by
      intro t kt
      refine Gi2 _ ?_
      show Steps p.tables e below (s₁.setTop (mkF m 5 #[.val (.int p0), .val (.long q1), .second, .val (.int p2), .val (.int p3), .val (.int (0 : Int32)), .unset, .unset, .unset, .unset, .unset, .unset, .unset, .unset, .unset, .unset, .unset, .unset, .unset, .unset, .unset, .unset] [])) _
      refine XS.iconst X0.here hx rfl (hb hby at_5) ?_
      show Steps p.tables e below (s₁.setTop (mkF m 6 #[.val (.int p0), .val (.long q1), .second, .val (.int p2), .val (.int p3), .val (.int (0 : Int32)), .unset, .unset, .unset, .unset, .unset, .unset, .unset, .unset, .unset, .unset, .unset, .unset, .unset, .unset, .unset, .unset] [(.int (1 : Int32))])) _
      refine XS.iload X0.here hx rfl (hb hby at_6) rfl ?_
      show Steps p.tables e below (s₁.setTop (mkF m 8 #[.val (.int p0), .val (.long q1), .second, .val (.int p2), .val (.int p3), .val (.int (0 : Int32)), .unset, .unset, .unset, .unset, .unset, .unset, .unset, .unset, .unset, .unset, .unset, .unset, .unset, .unset, .unset, .unset] [(.int (0 : Int32)), (.int (1 : Int32))])) _
      refine XS.isub X0.here hx rfl (hb hby at_8) rfl ?_
      show Steps p.tables e below (s₁.setTop (mkF m 9 #[.val (.int p0), .val (.long q1), .second, .val (.int p2), .val (.int p3), .val (.int (0 : Int32)), .unset, .unset, .unset, .unset, .unset, .unset, .unset, .unset, .unset, .unset, .unset, .unset, .unset, .unset, .unset, .unset] [(.int (1 : Int32))])) _
      refine XS.istore X0.here hx rfl (hb hby at_9) rfl (l' := #[.val (.int p0), .val (.long q1), .second, .val (.int p2), .val (.int p3), .val (.int (0 : Int32)), .val (.int (1 : Int32)), .unset, .unset, .unset, .unset, .unset, .unset, .unset, .unset, .unset, .unset, .unset, .unset, .unset, .unset, .unset]) rfl ?_
      show Steps p.tables e below (s₁.setTop (mkF m 11 #[.val (.int p0), .val (.long q1), .second, .val (.int p2), .val (.int p3), .val (.int (0 : Int32)), .val (.int (1 : Int32)), .unset, .unset, .unset, .unset, .unset, .unset, .unset, .unset, .unset, .unset, .unset, .unset, .unset, .unset, .unset] [])) _
      refine XS.iloadN X0.here hx rfl (hb hby at_11) rfl ?_
      show Steps p.tables e below (s₁.setTop (mkF m 12 #[.val (.int p0), .val (.long q1), .second, .val (.int p2), .val (.int p3), .val (.int (0 : Int32)), .val (.int (1 : Int32)), .unset, .unset, .unset, .unset, .unset, .unset, .unset, .unset, .unset, .unset, .unset, .unset, .unset, .unset, .unset] [(.int p2)])) _
      refine XS.bipush X0.here hx rfl (hb hby at_12) ?_
      show Steps p.tables e below (s₁.setTop (mkF m 14 #[.val (.int p0), .val (.long q1), .second, .val (.int p2), .val (.int p3), .val (.int (0 : Int32)), .val (.int (1 : Int32)), .unset, .unset, .unset, .unset, .unset, .unset, .unset, .unset, .unset, .unset, .unset, .unset, .unset, .unset, .unset] [(.int (16 : Int32)), (.int p2)])) _
      refine XS.iushr X0.here hx rfl (hb hby at_14) rfl ?_
      show Steps p.tables e below (s₁.setTop (mkF m 15 #[.val (.int p0), .val (.long q1), .second, .val (.int p2), .val (.int p3), .val (.int (0 : Int32)), .val (.int (1 : Int32)), .unset, .unset, .unset, .unset, .unset, .unset, .unset, .unset, .unset, .unset, .unset, .unset, .unset, .unset, .unset] [(.int ((p2.toUInt32 >>> ((16 : Int32) &&& 31).toUInt32).toInt32))])) _
      refine X0.ldcInt hx hown (mvT hZ (hq hw 0 rfl)) (g := (mkF m 15 #[.val (.int p0), .val (.long q1), .second, .val (.int p2), .val (.int p3), .val (.int (0 : Int32)), .val (.int (1 : Int32)), .unset, .unset, .unset, .unset, .unset, .unset, .unset, .unset, .unset, .unset, .unset, .unset, .unset, .unset, .unset] [(.int ((p2.toUInt32 >>> ((16 : Int32) &&& 31).toUInt32).toInt32))])) rfl (hb hby at_15) _ ?_
      show Steps p.tables e below (s₁.setTop (mkF m 17 #[.val (.int p0), .val (.long q1), .second, .val (.int p2), .val (.int p3), .val (.int (0 : Int32)), .val (.int (1 : Int32)), .unset, .unset, .unset, .unset, .unset, .unset, .unset, .unset, .unset, .unset, .unset, .unset, .unset, .unset, .unset] [(.int (65535 : Int32)), (.int ((p2.toUInt32 >>> ((16 : Int32) &&& 31).toUInt32).toInt32))])) _
      refine XS.iand X0.here hx rfl (hb hby at_17) rfl ?_
      show Steps p.tables e below (s₁.setTop (mkF m 18 #[.val (.int p0), .val (.long q1), .second, .val (.int p2), .val (.int p3), .val (.int (0 : Int32)), .val (.int (1 : Int32)), .unset, .unset, .unset, .unset, .unset, .unset, .unset, .unset, .unset, .unset, .unset, .unset, .unset, .unset, .unset] [(.int (((p2.toUInt32 >>> ((16 : Int32) &&& 31).toUInt32).toInt32) &&& (65535 : Int32)))])) _
      refine XS.i2l X0.here hx rfl (hb hby at_18) rfl ?_
      show Steps p.tables e below (s₁.setTop (mkF m 19 #[.val (.int p0), .val (.long q1), .second, .val (.int p2), .val (.int p3), .val (.int (0 : Int32)), .val (.int (1 : Int32)), .unset, .unset, .unset, .unset, .unset, .unset, .unset, .unset, .unset, .unset, .unset, .unset, .unset, .unset, .unset] [(.long ((((p2.toUInt32 >>> ((16 : Int32) &&& 31).toUInt32).toInt32) &&& (65535 : Int32)).toInt64))])) _
      refine XS.lconst X0.here hx rfl (hb hby at_19) ?_
      show Steps p.tables e below (s₁.setTop (mkF m 20 #[.val (.int p0), .val (.long q1), .second, .val (.int p2), .val (.int p3), .val (.int (0 : Int32)), .val (.int (1 : Int32)), .unset, .unset, .unset, .unset, .unset, .unset, .unset, .unset, .unset, .unset, .unset, .unset, .unset, .unset, .unset] [(.long (1 : Int64)), (.long ((((p2.toUInt32 >>> ((16 : Int32) &&& 31).toUInt32).toInt32) &&& (65535 : Int32)).toInt64))])) _
      refine XS.ladd X0.here hx rfl (hb hby at_20) rfl ?_
      show Steps p.tables e below (s₁.setTop (mkF m 21 #[.val (.int p0), .val (.long q1), .second, .val (.int p2), .val (.int p3), .val (.int (0 : Int32)), .val (.int (1 : Int32)), .unset, .unset, .unset, .unset, .unset, .unset, .unset, .unset, .unset, .unset, .unset, .unset, .unset, .unset, .unset] [(.long (((((p2.toUInt32 >>> ((16 : Int32) &&& 31).toUInt32).toInt32) &&& (65535 : Int32)).toInt64) + (1 : Int64)))])) _
      refine XS.lstore X0.here hx rfl (hb hby at_21) rfl (l' := #[.val (.int p0), .val (.long q1), .second, .val (.int p2), .val (.int p3), .val (.int (0 : Int32)), .val (.int (1 : Int32)), .val (.long (((((p2.toUInt32 >>> ((16 : Int32) &&& 31).toUInt32).toInt32) &&& (65535 : Int32)).toInt64) + (1 : Int64))), .second, .unset, .unset, .unset, .unset, .unset, .unset, .unset, .unset, .unset, .unset, .unset, .unset, .unset]) rfl ?_
      exact kt
    obtain ⟨dd, hdd⟩ : ∃ z : Int64, z = (((((p2.toUInt32 >>> ((16 : Int32) &&& 31).toUInt32).toInt32) &&& (65535 : Int32)).toInt64) + (1 : Int64)) := ⟨_, rfl⟩
    have G4 : ∀ t, Steps p.tables e below (s₁.setTop (mkF m 23 #[.val (.int p0), .val (.long q1), .second, .val (.int p2), .val (.int p3), .val (.int (0 : Int32)), .val (.int (1 : Int32)), .val (.long dd), .second, .unset, .unset, .unset, .unset, .unset, .unset, .unset, .unset, .unset, .unset, .unset, .unset, .unset] [])) t → Steps p.tables e below (s₁.setTop (entryFrame m #[(.int p0), (.long q1), (.int p2), (.int p3)] maxLocals)) t := by
      intro t kt
      rw [hdd] at kt
      exact G3 t kt
    have hdr := own_dr hdd
    have G5 : ∀ t, Steps p.tables e below (s₁.setTop (mkF m 33 #[.val (.int p0), .val (.long q1), .second, .val (.int p2), .val (.int p3), .val (.int (0 : Int32)), .val (.int (1 : Int32)), .val (.long dd), .second, .val (.long (((p2 &&& (65535 : Int32)).toInt64) - (((p2 &&& (65535 : Int32)).toInt64) / dd) * dd)), .second, .unset, .unset, .unset, .unset, .unset, .unset, .unset, .unset, .unset, .unset, .unset] [])) t → Steps p.tables e below (s₁.setTop (entryFrame m #[(.int p0), (.long q1), (.int p2), (.int p3)] maxLocals)) t := by
      intro t kt
      refine G4 _ ?_
      show Steps p.tables e below (s₁.setTop (mkF m 23 #[.val (.int p0), .val (.long q1), .second, .val (.int p2), .val (.int p3), .val (.int (0 : Int32)), .val (.int (1 : Int32)), .val (.long dd), .second, .unset, .unset, .unset, .unset, .unset, .unset, .unset, .unset, .unset, .unset, .unset, .unset, .unset] [])) _
      refine XS.iloadN X0.here hx rfl (hb hby at_23) rfl ?_
      show Steps p.tables e below (s₁.setTop (mkF m 24 #[.val (.int p0), .val (.long q1), .second, .val (.int p2), .val (.int p3), .val (.int (0 : Int32)), .val (.int (1 : Int32)), .val (.long dd), .second, .unset, .unset, .unset, .unset, .unset, .unset, .unset, .unset, .unset, .unset, .unset, .unset, .unset] [(.int p2)])) _
      refine X0.ldcInt hx hown (mvT hZ (hq hw 0 rfl)) (g := (mkF m 24 #[.val (.int p0), .val (.long q1), .second, .val (.int p2), .val (.int p3), .val (.int (0 : Int32)), .val (.int (1 : Int32)), .val (.long dd), .second, .unset, .unset, .unset, .unset, .unset, .unset, .unset, .unset, .unset, .unset, .unset, .unset, .unset] [(.int p2)])) rfl (hb hby at_24) _ ?_
      show Steps p.tables e below (s₁.setTop (mkF m 26 #[.val (.int p0), .val (.long q1), .second, .val (.int p2), .val (.int p3), .val (.int (0 : Int32)), .val (.int (1 : Int32)), .val (.long dd), .second, .unset, .unset, .unset, .unset, .unset, .unset, .unset, .unset, .unset, .unset, .unset, .unset, .unset] [(.int (65535 : Int32)), (.int p2)])) _
      refine XS.iand X0.here hx rfl (hb hby at_26) rfl ?_
      show Steps p.tables e below (s₁.setTop (mkF m 27 #[.val (.int p0), .val (.long q1), .second, .val (.int p2), .val (.int p3), .val (.int (0 : Int32)), .val (.int (1 : Int32)), .val (.long dd), .second, .unset, .unset, .unset, .unset, .unset, .unset, .unset, .unset, .unset, .unset, .unset, .unset, .unset] [(.int (p2 &&& (65535 : Int32)))])) _
      refine XS.i2l X0.here hx rfl (hb hby at_27) rfl ?_
      show Steps p.tables e below (s₁.setTop (mkF m 28 #[.val (.int p0), .val (.long q1), .second, .val (.int p2), .val (.int p3), .val (.int (0 : Int32)), .val (.int (1 : Int32)), .val (.long dd), .second, .unset, .unset, .unset, .unset, .unset, .unset, .unset, .unset, .unset, .unset, .unset, .unset, .unset] [(.long ((p2 &&& (65535 : Int32)).toInt64))])) _
      refine XS.lload X0.here hx rfl (hb hby at_28) rfl ?_
      show Steps p.tables e below (s₁.setTop (mkF m 30 #[.val (.int p0), .val (.long q1), .second, .val (.int p2), .val (.int p3), .val (.int (0 : Int32)), .val (.int (1 : Int32)), .val (.long dd), .second, .unset, .unset, .unset, .unset, .unset, .unset, .unset, .unset, .unset, .unset, .unset, .unset, .unset] [(.long dd), (.long ((p2 &&& (65535 : Int32)).toInt64))])) _
      refine XS.lrem X0.here hx rfl (hb hby at_30) rfl (own_nz hdr) ?_
      show Steps p.tables e below (s₁.setTop (mkF m 31 #[.val (.int p0), .val (.long q1), .second, .val (.int p2), .val (.int p3), .val (.int (0 : Int32)), .val (.int (1 : Int32)), .val (.long dd), .second, .unset, .unset, .unset, .unset, .unset, .unset, .unset, .unset, .unset, .unset, .unset, .unset, .unset] [(.long (((p2 &&& (65535 : Int32)).toInt64) - (((p2 &&& (65535 : Int32)).toInt64) / dd) * dd))])) _
      refine XS.lstore X0.here hx rfl (hb hby at_31) rfl (l' := #[.val (.int p0), .val (.long q1), .second, .val (.int p2), .val (.int p3), .val (.int (0 : Int32)), .val (.int (1 : Int32)), .val (.long dd), .second, .val (.long (((p2 &&& (65535 : Int32)).toInt64) - (((p2 &&& (65535 : Int32)).toInt64) / dd) * dd)), .second, .unset, .unset, .unset, .unset, .unset, .unset, .unset, .unset, .unset, .unset, .unset]) rfl ?_
      exact kt
    obtain ⟨na, hna⟩ : ∃ z : Int64, z = (((p2 &&& (65535 : Int32)).toInt64) - (((p2 &&& (65535 : Int32)).toInt64) / dd) * dd) := ⟨_, rfl⟩
    have G6 : ∀ t, Steps p.tables e below (s₁.setTop (mkF m 33 #[.val (.int p0), .val (.long q1), .second, .val (.int p2), .val (.int p3), .val (.int (0 : Int32)), .val (.int (1 : Int32)), .val (.long dd), .second, .val (.long na), .second, .unset, .unset, .unset, .unset, .unset, .unset, .unset, .unset, .unset, .unset, .unset] [])) t → Steps p.tables e below (s₁.setTop (entryFrame m #[(.int p0), (.long q1), (.int p2), (.int p3)] maxLocals)) t := by
      intro t kt
      rw [hna] at kt
      exact G5 t kt
    have hnr := own_nr hdr hna
    have G7 : ∀ t, Steps p.tables e below (s₁.setTop (mkF m 40 #[.val (.int p0), .val (.long q1), .second, .val (.int p2), .val (.int p3), .val (.int (0 : Int32)), .val (.int (1 : Int32)), .val (.long dd), .second, .val (.long na), .second, .val (.long (dd - na)), .second, .unset, .unset, .unset, .unset, .unset, .unset, .unset, .unset, .unset] [])) t → Steps p.tables e below (s₁.setTop (entryFrame m #[(.int p0), (.long q1), (.int p2), (.int p3)] maxLocals)) t := by
      intro t kt
      refine G6 _ ?_
      show Steps p.tables e below (s₁.setTop (mkF m 33 #[.val (.int p0), .val (.long q1), .second, .val (.int p2), .val (.int p3), .val (.int (0 : Int32)), .val (.int (1 : Int32)), .val (.long dd), .second, .val (.long na), .second, .unset, .unset, .unset, .unset, .unset, .unset, .unset, .unset, .unset, .unset, .unset] [])) _
      refine XS.lload X0.here hx rfl (hb hby at_33) rfl ?_
      show Steps p.tables e below (s₁.setTop (mkF m 35 #[.val (.int p0), .val (.long q1), .second, .val (.int p2), .val (.int p3), .val (.int (0 : Int32)), .val (.int (1 : Int32)), .val (.long dd), .second, .val (.long na), .second, .unset, .unset, .unset, .unset, .unset, .unset, .unset, .unset, .unset, .unset, .unset] [(.long dd)])) _
      refine XS.lload X0.here hx rfl (hb hby at_35) rfl ?_
      show Steps p.tables e below (s₁.setTop (mkF m 37 #[.val (.int p0), .val (.long q1), .second, .val (.int p2), .val (.int p3), .val (.int (0 : Int32)), .val (.int (1 : Int32)), .val (.long dd), .second, .val (.long na), .second, .unset, .unset, .unset, .unset, .unset, .unset, .unset, .unset, .unset, .unset, .unset] [(.long na), (.long dd)])) _
      refine XS.lsub X0.here hx rfl (hb hby at_37) rfl ?_
      show Steps p.tables e below (s₁.setTop (mkF m 38 #[.val (.int p0), .val (.long q1), .second, .val (.int p2), .val (.int p3), .val (.int (0 : Int32)), .val (.int (1 : Int32)), .val (.long dd), .second, .val (.long na), .second, .unset, .unset, .unset, .unset, .unset, .unset, .unset, .unset, .unset, .unset, .unset] [(.long (dd - na))])) _
      refine XS.lstore X0.here hx rfl (hb hby at_38) rfl (l' := #[.val (.int p0), .val (.long q1), .second, .val (.int p2), .val (.int p3), .val (.int (0 : Int32)), .val (.int (1 : Int32)), .val (.long dd), .second, .val (.long na), .second, .val (.long (dd - na)), .second, .unset, .unset, .unset, .unset, .unset, .unset, .unset, .unset, .unset]) rfl ?_
      exact kt
    obtain ⟨nb, hnb⟩ : ∃ z : Int64, z = (dd - na) := ⟨_, rfl⟩
    have G8 : ∀ t, Steps p.tables e below (s₁.setTop (mkF m 40 #[.val (.int p0), .val (.long q1), .second, .val (.int p2), .val (.int p3), .val (.int (0 : Int32)), .val (.int (1 : Int32)), .val (.long dd), .second, .val (.long na), .second, .val (.long nb), .second, .unset, .unset, .unset, .unset, .unset, .unset, .unset, .unset, .unset] [])) t → Steps p.tables e below (s₁.setTop (entryFrame m #[(.int p0), (.long q1), (.int p2), (.int p3)] maxLocals)) t := by
      intro t kt
      rw [hnb] at kt
      exact G7 t kt
    have hbr := own_br hdr hnr hnb
    have G9 : ∀ t, Steps p.tables e below (s₁.setTop (mkF m 47 #[.val (.int p0), .val (.long q1), .second, .val (.int p2), .val (.int p3), .val (.int (0 : Int32)), .val (.int (1 : Int32)), .val (.long dd), .second, .val (.long na), .second, .val (.long nb), .second, .val (.long (q1 &&& (9007199254740991 : Int64))), .second, .unset, .unset, .unset, .unset, .unset, .unset, .unset] [])) t → Steps p.tables e below (s₁.setTop (entryFrame m #[(.int p0), (.long q1), (.int p2), (.int p3)] maxLocals)) t := by
      intro t kt
      refine G8 _ ?_
      show Steps p.tables e below (s₁.setTop (mkF m 40 #[.val (.int p0), .val (.long q1), .second, .val (.int p2), .val (.int p3), .val (.int (0 : Int32)), .val (.int (1 : Int32)), .val (.long dd), .second, .val (.long na), .second, .val (.long nb), .second, .unset, .unset, .unset, .unset, .unset, .unset, .unset, .unset, .unset] [])) _
      refine XS.lloadN X0.here hx rfl (hb hby at_40) rfl ?_
      show Steps p.tables e below (s₁.setTop (mkF m 41 #[.val (.int p0), .val (.long q1), .second, .val (.int p2), .val (.int p3), .val (.int (0 : Int32)), .val (.int (1 : Int32)), .val (.long dd), .second, .val (.long na), .second, .val (.long nb), .second, .unset, .unset, .unset, .unset, .unset, .unset, .unset, .unset, .unset] [(.long q1)])) _
      refine X0.ldc2Long hx hown (mvT hZ (hq hw 1 rfl)) (g := (mkF m 41 #[.val (.int p0), .val (.long q1), .second, .val (.int p2), .val (.int p3), .val (.int (0 : Int32)), .val (.int (1 : Int32)), .val (.long dd), .second, .val (.long na), .second, .val (.long nb), .second, .unset, .unset, .unset, .unset, .unset, .unset, .unset, .unset, .unset] [(.long q1)])) rfl (hb hby at_41) _ ?_
      show Steps p.tables e below (s₁.setTop (mkF m 44 #[.val (.int p0), .val (.long q1), .second, .val (.int p2), .val (.int p3), .val (.int (0 : Int32)), .val (.int (1 : Int32)), .val (.long dd), .second, .val (.long na), .second, .val (.long nb), .second, .unset, .unset, .unset, .unset, .unset, .unset, .unset, .unset, .unset] [(.long (9007199254740991 : Int64)), (.long q1)])) _
      refine XS.land X0.here hx rfl (hb hby at_44) rfl ?_
      show Steps p.tables e below (s₁.setTop (mkF m 45 #[.val (.int p0), .val (.long q1), .second, .val (.int p2), .val (.int p3), .val (.int (0 : Int32)), .val (.int (1 : Int32)), .val (.long dd), .second, .val (.long na), .second, .val (.long nb), .second, .unset, .unset, .unset, .unset, .unset, .unset, .unset, .unset, .unset] [(.long (q1 &&& (9007199254740991 : Int64)))])) _
      refine XS.lstore X0.here hx rfl (hb hby at_45) rfl (l' := #[.val (.int p0), .val (.long q1), .second, .val (.int p2), .val (.int p3), .val (.int (0 : Int32)), .val (.int (1 : Int32)), .val (.long dd), .second, .val (.long na), .second, .val (.long nb), .second, .val (.long (q1 &&& (9007199254740991 : Int64))), .second, .unset, .unset, .unset, .unset, .unset, .unset, .unset]) rfl ?_
      exact kt
    obtain ⟨j10, hj10⟩ : ∃ z : Int64, z = (if (p3 &&& (1 : Int32)) = (0 : Int32) then (q1 &&& (9007199254740991 : Int64)) else (9007199254740992 : Int64)) := ⟨_, rfl⟩
    have G11 : ∀ t, Steps p.tables e below (s₁.setTop (mkF m 59 #[.val (.int p0), .val (.long q1), .second, .val (.int p2), .val (.int p3), .val (.int (0 : Int32)), .val (.int (1 : Int32)), .val (.long dd), .second, .val (.long na), .second, .val (.long nb), .second, .val (.long j10), .second, .unset, .unset, .unset, .unset, .unset, .unset, .unset] [])) t → Steps p.tables e below (s₁.setTop (entryFrame m #[(.int p0), (.long q1), (.int p2), (.int p3)] maxLocals)) t := by
      intro t kt
      have G12 : ∀ t, Steps p.tables e below (s₁.setTop (mkF m 51 #[.val (.int p0), .val (.long q1), .second, .val (.int p2), .val (.int p3), .val (.int (0 : Int32)), .val (.int (1 : Int32)), .val (.long dd), .second, .val (.long na), .second, .val (.long nb), .second, .val (.long (q1 &&& (9007199254740991 : Int64))), .second, .unset, .unset, .unset, .unset, .unset, .unset, .unset] [(.int (p3 &&& (1 : Int32)))])) t → Steps p.tables e below (s₁.setTop (entryFrame m #[(.int p0), (.long q1), (.int p2), (.int p3)] maxLocals)) t := by
        intro t kt
        refine G9 _ ?_
        show Steps p.tables e below (s₁.setTop (mkF m 47 #[.val (.int p0), .val (.long q1), .second, .val (.int p2), .val (.int p3), .val (.int (0 : Int32)), .val (.int (1 : Int32)), .val (.long dd), .second, .val (.long na), .second, .val (.long nb), .second, .val (.long (q1 &&& (9007199254740991 : Int64))), .second, .unset, .unset, .unset, .unset, .unset, .unset, .unset] [])) _
        refine XS.iload X0.here hx rfl (hb hby at_47) rfl ?_
        show Steps p.tables e below (s₁.setTop (mkF m 49 #[.val (.int p0), .val (.long q1), .second, .val (.int p2), .val (.int p3), .val (.int (0 : Int32)), .val (.int (1 : Int32)), .val (.long dd), .second, .val (.long na), .second, .val (.long nb), .second, .val (.long (q1 &&& (9007199254740991 : Int64))), .second, .unset, .unset, .unset, .unset, .unset, .unset, .unset] [(.int p3)])) _
        refine XS.iconst X0.here hx rfl (hb hby at_49) ?_
        show Steps p.tables e below (s₁.setTop (mkF m 50 #[.val (.int p0), .val (.long q1), .second, .val (.int p2), .val (.int p3), .val (.int (0 : Int32)), .val (.int (1 : Int32)), .val (.long dd), .second, .val (.long na), .second, .val (.long nb), .second, .val (.long (q1 &&& (9007199254740991 : Int64))), .second, .unset, .unset, .unset, .unset, .unset, .unset, .unset] [(.int (1 : Int32)), (.int p3)])) _
        refine XS.iand X0.here hx rfl (hb hby at_50) rfl ?_
        exact kt
      by_cases hc51_13 : (p3 &&& (1 : Int32)) = (0 : Int32)
      · skip
        rw [show j10 = (q1 &&& (9007199254740991 : Int64)) from by rw [hj10, if_pos hc51_13]] at kt
        refine G12 _ ?_
        show Steps p.tables e below (s₁.setTop (mkF m 51 #[.val (.int p0), .val (.long q1), .second, .val (.int p2), .val (.int p3), .val (.int (0 : Int32)), .val (.int (1 : Int32)), .val (.long dd), .second, .val (.long na), .second, .val (.long nb), .second, .val (.long (q1 &&& (9007199254740991 : Int64))), .second, .unset, .unset, .unset, .unset, .unset, .unset, .unset] [(.int (p3 &&& (1 : Int32)))])) _
        refine XS.ifYes X0.here hx rfl (pc0 := 51) (pc' := 59) rfl (hb hby at_51) rfl ((if0 _ _).trans (teq hc51_13).1) (by decide) (by decide) ?_
        exact kt
      · skip
        rw [show j10 = (9007199254740992 : Int64) from by rw [hj10, if_neg hc51_13]] at kt
        refine G12 _ ?_
        show Steps p.tables e below (s₁.setTop (mkF m 51 #[.val (.int p0), .val (.long q1), .second, .val (.int p2), .val (.int p3), .val (.int (0 : Int32)), .val (.int (1 : Int32)), .val (.long dd), .second, .val (.long na), .second, .val (.long nb), .second, .val (.long (q1 &&& (9007199254740991 : Int64))), .second, .unset, .unset, .unset, .unset, .unset, .unset, .unset] [(.int (p3 &&& (1 : Int32)))])) _
        refine XS.ifNo X0.here hx rfl (hb hby at_51) rfl ((if0 _ _).trans (feq hc51_13).1) ?_
        show Steps p.tables e below (s₁.setTop (mkF m 54 #[.val (.int p0), .val (.long q1), .second, .val (.int p2), .val (.int p3), .val (.int (0 : Int32)), .val (.int (1 : Int32)), .val (.long dd), .second, .val (.long na), .second, .val (.long nb), .second, .val (.long (q1 &&& (9007199254740991 : Int64))), .second, .unset, .unset, .unset, .unset, .unset, .unset, .unset] [])) _
        refine X0.ldc2Long hx hown (mvT hZ (hq hw 65 rfl)) (g := (mkF m 54 #[.val (.int p0), .val (.long q1), .second, .val (.int p2), .val (.int p3), .val (.int (0 : Int32)), .val (.int (1 : Int32)), .val (.long dd), .second, .val (.long na), .second, .val (.long nb), .second, .val (.long (q1 &&& (9007199254740991 : Int64))), .second, .unset, .unset, .unset, .unset, .unset, .unset, .unset] [])) rfl (hb hby at_54) _ ?_
        show Steps p.tables e below (s₁.setTop (mkF m 57 #[.val (.int p0), .val (.long q1), .second, .val (.int p2), .val (.int p3), .val (.int (0 : Int32)), .val (.int (1 : Int32)), .val (.long dd), .second, .val (.long na), .second, .val (.long nb), .second, .val (.long (q1 &&& (9007199254740991 : Int64))), .second, .unset, .unset, .unset, .unset, .unset, .unset, .unset] [(.long (9007199254740992 : Int64))])) _
        refine XS.lstore X0.here hx rfl (hb hby at_57) rfl (l' := #[.val (.int p0), .val (.long q1), .second, .val (.int p2), .val (.int p3), .val (.int (0 : Int32)), .val (.int (1 : Int32)), .val (.long dd), .second, .val (.long na), .second, .val (.long nb), .second, .val (.long (9007199254740992 : Int64)), .second, .unset, .unset, .unset, .unset, .unset, .unset, .unset]) rfl ?_
        exact kt
    have hmr := own_mr hj10
    have G14 : ∀ t, Steps p.tables e below (s₁.setTop (mkF m 68 #[.val (.int p0), .val (.long q1), .second, .val (.int p2), .val (.int p3), .val (.int (0 : Int32)), .val (.int (1 : Int32)), .val (.long dd), .second, .val (.long na), .second, .val (.long nb), .second, .val (.long j10), .second, .val (.double (FP.ddiv (FP.l2d j10) 4845873199050653696)), .second, .unset, .unset, .unset, .unset, .unset] [])) t → Steps p.tables e below (s₁.setTop (entryFrame m #[(.int p0), (.long q1), (.int p2), (.int p3)] maxLocals)) t := by
      intro t kt
      refine G11 _ ?_
      show Steps p.tables e below (s₁.setTop (mkF m 59 #[.val (.int p0), .val (.long q1), .second, .val (.int p2), .val (.int p3), .val (.int (0 : Int32)), .val (.int (1 : Int32)), .val (.long dd), .second, .val (.long na), .second, .val (.long nb), .second, .val (.long j10), .second, .unset, .unset, .unset, .unset, .unset, .unset, .unset] [])) _
      refine XS.lload X0.here hx rfl (hb hby at_59) rfl ?_
      show Steps p.tables e below (s₁.setTop (mkF m 61 #[.val (.int p0), .val (.long q1), .second, .val (.int p2), .val (.int p3), .val (.int (0 : Int32)), .val (.int (1 : Int32)), .val (.long dd), .second, .val (.long na), .second, .val (.long nb), .second, .val (.long j10), .second, .unset, .unset, .unset, .unset, .unset, .unset, .unset] [(.long j10)])) _
      refine XS.l2dS X0.here hx rfl (hb hby at_61) rfl rfl ?_
      show Steps p.tables e below (s₁.setTop (mkF m 62 #[.val (.int p0), .val (.long q1), .second, .val (.int p2), .val (.int p3), .val (.int (0 : Int32)), .val (.int (1 : Int32)), .val (.long dd), .second, .val (.long na), .second, .val (.long nb), .second, .val (.long j10), .second, .unset, .unset, .unset, .unset, .unset, .unset, .unset] [(.double (FP.l2d j10))])) _
      refine X0.ldc2DoubleC hx hown (mvT hZ (hq hw 2 rfl)) (g := (mkF m 62 #[.val (.int p0), .val (.long q1), .second, .val (.int p2), .val (.int p3), .val (.int (0 : Int32)), .val (.int (1 : Int32)), .val (.long dd), .second, .val (.long na), .second, .val (.long nb), .second, .val (.long j10), .second, .unset, .unset, .unset, .unset, .unset, .unset, .unset] [(.double (FP.l2d j10))])) rfl (hb hby at_62) _ ?_
      show Steps p.tables e below (s₁.setTop (mkF m 65 #[.val (.int p0), .val (.long q1), .second, .val (.int p2), .val (.int p3), .val (.int (0 : Int32)), .val (.int (1 : Int32)), .val (.long dd), .second, .val (.long na), .second, .val (.long nb), .second, .val (.long j10), .second, .unset, .unset, .unset, .unset, .unset, .unset, .unset] [(.double 4845873199050653696), (.double (FP.l2d j10))])) _
      refine XS.ddivS X0.here hx rfl (hb hby at_65) rfl (own_nn (own_vm j10 hmr.1 hmr.2)) rfl ?_
      show Steps p.tables e below (s₁.setTop (mkF m 66 #[.val (.int p0), .val (.long q1), .second, .val (.int p2), .val (.int p3), .val (.int (0 : Int32)), .val (.int (1 : Int32)), .val (.long dd), .second, .val (.long na), .second, .val (.long nb), .second, .val (.long j10), .second, .unset, .unset, .unset, .unset, .unset, .unset, .unset] [(.double (FP.ddiv (FP.l2d j10) 4845873199050653696))])) _
      refine XS.dstore X0.here hx rfl (hb hby at_66) rfl (l' := #[.val (.int p0), .val (.long q1), .second, .val (.int p2), .val (.int p3), .val (.int (0 : Int32)), .val (.int (1 : Int32)), .val (.long dd), .second, .val (.long na), .second, .val (.long nb), .second, .val (.long j10), .second, .val (.double (FP.ddiv (FP.l2d j10) 4845873199050653696)), .second, .unset, .unset, .unset, .unset, .unset]) rfl ?_
      exact kt
    obtain ⟨vv, hvv⟩ : ∃ z : UInt64, z = (FP.ddiv (FP.l2d j10) 4845873199050653696) := ⟨_, rfl⟩
    have G15 : ∀ t, Steps p.tables e below (s₁.setTop (mkF m 68 #[.val (.int p0), .val (.long q1), .second, .val (.int p2), .val (.int p3), .val (.int (0 : Int32)), .val (.int (1 : Int32)), .val (.long dd), .second, .val (.long na), .second, .val (.long nb), .second, .val (.long j10), .second, .val (.double vv), .second, .unset, .unset, .unset, .unset, .unset] [])) t → Steps p.tables e below (s₁.setTop (entryFrame m #[(.int p0), (.long q1), (.int p2), (.int p3)] maxLocals)) t := by
      intro t kt
      rw [hvv] at kt
      exact G14 t kt
    obtain ⟨T16, h16, X16, e16, E16, A16, D16, -, st16⟩ := newO X0 hx hZ hown (hq hw 3 rfl) (hq hw 4 rfl) (hq hw 5 rfl) e0 (g := (mkF m 68 #[.val (.int p0), .val (.long q1), .second, .val (.int p2), .val (.int p3), .val (.int (0 : Int32)), .val (.int (1 : Int32)), .val (.long dd), .second, .val (.long na), .second, .val (.long nb), .second, .val (.long j10), .second, .val (.double vv), .second, .unset, .unset, .unset, .unset, .unset] [])) rfl (hb hby at_68) (by decide) (by decide)
    obtain ⟨b16, g16⟩ : ∃ z, z = h0.size := ⟨_, rfl⟩
    rw [← g16] at A16 D16 st16
    have g_b16 : n0 ≤ b16 := Nat.le_trans Z0 (Nat.le_of_eq g16.symm)
    have sz_b16 : h0.size ≤ b16 := Nat.le_trans kp0.1 (Nat.le_of_eq g16.symm)
    have z17 : n0 ≤ h16.size := Nat.le_trans Z0 E16.1
    have kp18 : Keep h0 h16 [] := kp0.ext E16
    have fa19 : Fld Z h16 b16 "com/example/degree/degree/retrieval/DoubleDoubles" "high" "[D" .null := D16 (Or.inr (hq hw 14 rfl)) (ty := (.array .double)) (by decide)
    have fa20 : Fld Z h16 b16 "com/example/degree/degree/retrieval/DoubleDoubles" "low" "[D" .null := D16 (Or.inr (hq hw 16 rfl)) (ty := (.array .double)) (by decide)
    obtain ⟨_, _, ⟨T21, L21, k21, n21⟩, -, X21, ⟨Lc21, hQ21, l21, y21, z21⟩, st21⟩ := X16.specialBack hx (y := (⟨"com/example/degree/degree/retrieval/DoubleDoubles", "<init>", "(I)V"⟩ : MethodName)) rfl hown (mvT hZ (hq hw 6 rfl)) (mvT hZ (hq hw 7 rfl)) (mvT hZ (hq hw 8 rfl)) (by decide) (backOf (W := 1) (rm1 l Z a0 hw [] b16 h16 n0 z17 A16 fa19 fa20 g_b16) hZ (hq hw 8 rfl) (hq hw 5 rfl) (by decide) (by decide)) (g := (mkF m 73 #[.val (.int p0), .val (.long q1), .second, .val (.int p2), .val (.int p3), .val (.int (0 : Int32)), .val (.int (1 : Int32)), .val (.long dd), .second, .val (.long na), .second, .val (.long nb), .second, .val (.long j10), .second, .val (.double vv), .second, .unset, .unset, .unset, .unset, .unset] [(.int (2 : Int32)), (.ref b16), (.ref b16)])) rfl (by rw [hml]; rfl) (Steps.refl _) (a := b16) (argsL := [(.int (2 : Int32))]) (rest := [(.ref b16)]) (lenOf pd_3 rfl) rfl (by show 2 * 0 + _ ≤ _; exact Nat.le_of_eq rfl) (hb hby at_73) (fun _ _ => ⟨rfl, e16, (by decide : 1 + 2 ≤ _), (by decide : 2 + 4 ≤ _)⟩)
    dsimp only [Pt.U, Pt.locs, Pt.cells, Pt.slots] at X21 l21 y21 z21 st21 hQ21
    subst l21 y21 z21
    obtain ⟨rfl, N21q, K21, A21, ha21, la21, kh21, kl21, Fh21, Fl21, Vh21, Vl21, sq_ha21, sq_la21, ne_ha21_la21⟩ := hQ21
    have N21 := Fr.app N0 N21q
    have ne_b16_ha21 : b16 ≠ ha21 := Nat.ne_of_lt (Nat.lt_of_lt_of_le A16.lt sq_ha21)
    have ne_b16_la21 : b16 ≠ la21 := Nat.ne_of_lt (Nat.lt_of_lt_of_le A16.lt sq_la21)
    have g_ha21 : n0 ≤ ha21 := Nat.le_trans z17 sq_ha21
    have sz_ha21 : h0.size ≤ ha21 := Nat.le_trans kp18.1 sq_ha21
    have g_la21 : n0 ≤ la21 := Nat.le_trans z17 sq_la21
    have sz_la21 : h0.size ≤ la21 := Nat.le_trans kp18.1 sq_la21
    have fa22 := A16.keep K21
    have z23 : n0 ≤ T21.heap.size := Nat.le_trans z17 K21.1
    have kp24 : Keep h0 T21.heap [] := kp18.trans K21 (allS (Or.inr sz_b16) all0)
    obtain ⟨cq25, kq25, q25a, q25b, q25c⟩ := isOf hZ rfl fa22
    obtain ⟨_, _, ⟨T25, L25, k25, n25⟩, -, X25, ⟨Lc25, hQ25, l25, y25, z25⟩, st25⟩ := X21.virtualBack hx (y := (⟨"com/example/degree/degree/retrieval/DoubleDoubles", "setQuotient", "(IJJ)V"⟩ : MethodName)) (z := (⟨"com/example/degree/degree/retrieval/DoubleDoubles", "setQuotient", "(IJJ)V"⟩ : MethodName)) hown (mvT hZ (hq hw 17 rfl)) (mvT hZ (hq hw 18 rfl)) (notFace_of_selects (args := #[]) (mvT hZ (hq hw 20 rfl))) (mvT hZ (hq hw 20 rfl)) (mvT hZ (hq hw 19 rfl)) (by decide) (backOf (W := 0) (rm_setQuotient_0 l Z a0 hw [] b16 na dd ha21 la21 kh21 kl21 0 0 0 0 T21.heap n0 z23 fa22 Fh21 Fl21 Vh21 Vl21 g_ha21 g_la21 ne_ha21_la21 ne_b16_ha21 ne_b16_la21 (own_ok3 na dd hnr.1 (by omega) hdr.1 hdr.2).1) hZ (hq hw 21 rfl) (hq hw 5 rfl) (by decide) (by decide)) q25a q25c (g := (mkF m 86 #[.val (.int p0), .val (.long q1), .second, .val (.int p2), .val (.int p3), .val (.int (0 : Int32)), .val (.int (1 : Int32)), .val (.long dd), .second, .val (.long na), .second, .val (.long nb), .second, .val (.long j10), .second, .val (.double vv), .second, .val (.ref b16), .unset, .unset, .unset, .unset] [(.long dd), (.long na), (.int (0 : Int32)), (.ref b16)])) rfl (by rw [hml]; rfl) (Steps.refl _) (argsL := [(.int (0 : Int32)), (.long na), (.long dd)]) (rest := []) (lenOf pd_4 rfl) rfl (by show 2 * 0 + _ ≤ _; exact Nat.le_of_eq rfl) (hb hby at_86) (fun _ _ => ⟨rfl, rfl, (by decide : 3 + 0 ≤ _), (by decide : 6 + 0 ≤ _)⟩)
    dsimp only [Pt.U, Pt.locs, Pt.cells, Pt.slots] at X25 l25 y25 z25 st25 hQ25
    subst l25 y25 z25
    obtain ⟨rfl, N25q, K25, Vh25, Vl25⟩ := hQ25
    have N25 := Fr.app N21 N25q
    have fa26 := fa22.keep K25
    have fa27 := Fh21.keep K25 (ninS ne_b16_ha21 (ninS ne_b16_la21 nin0))
    have fa28 := Fl21.keep K25 (ninS ne_b16_ha21 (ninS ne_b16_la21 nin0))
    have z29 : n0 ≤ T25.heap.size := Nat.le_trans z23 K25.1
    have kp30 : Keep h0 T25.heap [] := kp24.trans K25 (allS (Or.inr sz_ha21) (allS (Or.inr sz_la21) all0))
    obtain ⟨qh25, hqh25⟩ : ∃ z : UInt64, z = (own_qh na dd) := ⟨_, rfl⟩
    obtain ⟨ql25, hql25⟩ : ∃ z : UInt64, z = (own_ql na dd) := ⟨_, rfl⟩
    rw [← hqh25] at Vh25
    rw [← hql25] at Vl25
    obtain ⟨cq31, kq31, q31a, q31b, q31c⟩ := isOf hZ rfl fa26
    obtain ⟨_, _, ⟨T31, L31, k31, n31⟩, -, X31, ⟨Lc31, hQ31, l31, y31, z31⟩, st31⟩ := X25.virtualBack hx (y := (⟨"com/example/degree/degree/retrieval/DoubleDoubles", "setQuotient", "(IJJ)V"⟩ : MethodName)) (z := (⟨"com/example/degree/degree/retrieval/DoubleDoubles", "setQuotient", "(IJJ)V"⟩ : MethodName)) hown (mvT hZ (hq hw 17 rfl)) (mvT hZ (hq hw 18 rfl)) (notFace_of_selects (args := #[]) (mvT hZ (hq hw 20 rfl))) (mvT hZ (hq hw 20 rfl)) (mvT hZ (hq hw 19 rfl)) (by decide) (backOf (W := 0) (rm_setQuotient_1 l Z a0 hw [] b16 nb dd ha21 la21 kh21 kl21 qh25 0 ql25 0 T25.heap n0 z29 fa26 fa27 fa28 Vh25 Vl25 g_ha21 g_la21 ne_ha21_la21 ne_b16_ha21 ne_b16_la21 (own_ok31 (own_ok3 nb dd hbr.1 hbr.2 hdr.1 hdr.2).1)) hZ (hq hw 21 rfl) (hq hw 5 rfl) (by decide) (by decide)) q31a q31c (g := (mkF m 97 #[.val (.int p0), .val (.long q1), .second, .val (.int p2), .val (.int p3), .val (.int (0 : Int32)), .val (.int (1 : Int32)), .val (.long dd), .second, .val (.long na), .second, .val (.long nb), .second, .val (.long j10), .second, .val (.double vv), .second, .val (.ref b16), .unset, .unset, .unset, .unset] [(.long dd), (.long nb), (.int (1 : Int32)), (.ref b16)])) rfl (by rw [hml]; rfl) (Steps.refl _) (argsL := [(.int (1 : Int32)), (.long nb), (.long dd)]) (rest := []) (lenOf pd_4 rfl) rfl (by show 2 * 0 + _ ≤ _; exact Nat.le_of_eq rfl) (hb hby at_97) (fun _ _ => ⟨rfl, rfl, (by decide : 3 + 0 ≤ _), (by decide : 6 + 0 ≤ _)⟩)
    dsimp only [Pt.U, Pt.locs, Pt.cells, Pt.slots] at X31 l31 y31 z31 st31 hQ31
    subst l31 y31 z31
    obtain ⟨rfl, N31q, K31, Vh31, Vl31⟩ := hQ31
    have N31 := Fr.app N25 N31q
    have fa32 := fa26.keep K31
    have fa33 := fa27.keep K31 (ninS ne_b16_ha21 (ninS ne_b16_la21 nin0))
    have fa34 := fa28.keep K31 (ninS ne_b16_ha21 (ninS ne_b16_la21 nin0))
    have z35 : n0 ≤ T31.heap.size := Nat.le_trans z29 K31.1
    have kp36 : Keep h0 T31.heap [] := kp30.trans K31 (allS (Or.inr sz_ha21) (allS (Or.inr sz_la21) all0))
    obtain ⟨qh31, hqh31⟩ : ∃ z : UInt64, z = (own_qh nb dd) := ⟨_, rfl⟩
    obtain ⟨ql31, hql31⟩ : ∃ z : UInt64, z = (own_ql nb dd) := ⟨_, rfl⟩
    rw [← hqh31] at Vh31
    rw [← hql31] at Vl31
    obtain ⟨cq37, kq37, q37a, q37b, q37c⟩ := isOf hZ rfl fa32
    obtain ⟨_, _, ⟨T37, L37, k37, n37⟩, -, X37, ⟨Lc37, hQ37, l37, y37, z37⟩, st37⟩ := X31.virtualBack hx (y := (⟨"com/example/degree/degree/retrieval/DoubleDoubles", "rounded", "(I)D"⟩ : MethodName)) (z := (⟨"com/example/degree/degree/retrieval/DoubleDoubles", "rounded", "(I)D"⟩ : MethodName)) hown (mvT hZ (hq hw 33 rfl)) (mvT hZ (hq hw 34 rfl)) (notFace_of_selects (args := #[]) (mvT hZ (hq hw 36 rfl))) (mvT hZ (hq hw 36 rfl)) (mvT hZ (hq hw 35 rfl)) (by decide) (backOf (W := 0) (rm_rounded_1 l Z a0 hw [] b16 ha21 la21 kh21 kl21 qh25 qh31 ql25 ql31 T31.heap n0 z35 fa32 fa33 fa34 Vh31 Vl31 g_ha21 g_la21 ne_ha21_la21 ne_b16_ha21 ne_b16_la21) hZ (hq hw 37 rfl) (hq hw 5 rfl) (by decide) (by decide)) q37a q37c (g := (mkF m 104 #[.val (.int p0), .val (.long q1), .second, .val (.int p2), .val (.int p3), .val (.int (0 : Int32)), .val (.int (1 : Int32)), .val (.long dd), .second, .val (.long na), .second, .val (.long nb), .second, .val (.long j10), .second, .val (.double vv), .second, .val (.ref b16), .unset, .unset, .unset, .unset] [(.int (1 : Int32)), (.ref b16)])) rfl (by rw [hml]; rfl) (Steps.refl _) (argsL := [(.int (1 : Int32))]) (rest := []) (lenOf pd_5 rfl) rfl (by show 2 * 0 + _ ≤ _; exact Nat.le_of_eq rfl) (hb hby at_104) (fun _ _ => ⟨rfl, rfl, (by decide : 3 + 0 ≤ _), (by decide : 6 + 0 ≤ _)⟩)
    dsimp only [Pt.U, Pt.locs, Pt.cells, Pt.slots] at X37 l37 y37 z37 st37 hQ37
    subst l37 y37 z37
    obtain ⟨rfl, N37q, eh37⟩ := hQ37
    have N37 := Fr.app N31 N37q
    obtain ⟨cq38, kq38, q38a, q38b, q38c⟩ := isOf hZ eh37 fa32
    obtain ⟨_, _, ⟨T38, L38, k38, n38⟩, -, X38, ⟨Lc38, hQ38, l38, y38, z38⟩, st38⟩ := X37.virtualBack hx (y := (⟨"com/example/degree/degree/retrieval/DoubleDoubles", "set", "(ID)V"⟩ : MethodName)) (z := (⟨"com/example/degree/degree/retrieval/DoubleDoubles", "set", "(ID)V"⟩ : MethodName)) hown (mvT hZ (hq hw 38 rfl)) (mvT hZ (hq hw 39 rfl)) (notFace_of_selects (args := #[]) (mvT hZ (hq hw 41 rfl))) (mvT hZ (hq hw 41 rfl)) (mvT hZ (hq hw 40 rfl)) (by decide) (backOf (W := 0) (rm_set_0 l Z a0 hw [] b16 vv ha21 la21 kh21 kl21 qh25 qh31 ql25 ql31 T31.heap n0 z35 fa32 fa33 fa34 Vh31 Vl31 g_ha21 g_la21 ne_ha21_la21 ne_b16_ha21 ne_b16_la21) hZ (hq hw 42 rfl) (hq hw 5 rfl) (by decide) (by decide)) q38a q38c (g := (mkF m 115 #[.val (.int p0), .val (.long q1), .second, .val (.int p2), .val (.int p3), .val (.int (0 : Int32)), .val (.int (1 : Int32)), .val (.long dd), .second, .val (.long na), .second, .val (.long nb), .second, .val (.long j10), .second, .val (.double vv), .second, .val (.ref b16), .val (.double qh31), .second, .unset, .unset] [(.double vv), (.int (0 : Int32)), (.ref b16)])) rfl (by rw [hml]; rfl) (Steps.refl _) (argsL := [(.int (0 : Int32)), (.double vv)]) (rest := []) (lenOf pd_6 rfl) rfl (by show 2 * 0 + _ ≤ _; exact Nat.le_of_eq rfl) (hb hby at_115) (fun _ _ => ⟨rfl, eh37, (by decide : 3 + 0 ≤ _), (by decide : 6 + 0 ≤ _)⟩)
    dsimp only [Pt.U, Pt.locs, Pt.cells, Pt.slots] at X38 l38 y38 z38 st38 hQ38
    subst l38 y38 z38
    obtain ⟨rfl, N38q, K38, Vh38, Vl38⟩ := hQ38
    have N38 := Fr.app N37 N38q
    have fa39 := fa32.keep K38
    have fa40 := fa33.keep K38 (ninS ne_b16_ha21 (ninS ne_b16_la21 nin0))
    have fa41 := fa34.keep K38 (ninS ne_b16_ha21 (ninS ne_b16_la21 nin0))
    have z42 : n0 ≤ T38.heap.size := Nat.le_trans z35 K38.1
    have kp43 : Keep h0 T38.heap [] := kp36.trans K38 (allS (Or.inr sz_ha21) (allS (Or.inr sz_la21) all0))
    obtain ⟨cq44, kq44, q44a, q44b, q44c⟩ := isOf hZ rfl fa39
    obtain ⟨_, _, ⟨T44, L44, k44, n44⟩, -, X44, ⟨Lc44, hQ44, l44, y44, z44⟩, st44⟩ := X38.virtualBack hx (y := (⟨"com/example/degree/degree/retrieval/DoubleDoubles", "rounded", "(I)D"⟩ : MethodName)) (z := (⟨"com/example/degree/degree/retrieval/DoubleDoubles", "rounded", "(I)D"⟩ : MethodName)) hown (mvT hZ (hq hw 33 rfl)) (mvT hZ (hq hw 34 rfl)) (notFace_of_selects (args := #[]) (mvT hZ (hq hw 36 rfl))) (mvT hZ (hq hw 36 rfl)) (mvT hZ (hq hw 35 rfl)) (by decide) (backOf (W := 0) (rm_rounded_0 l Z a0 hw [] b16 ha21 la21 kh21 kl21 vv qh31 FP.dconst0 ql31 T38.heap n0 z42 fa39 fa40 fa41 Vh38 Vl38 g_ha21 g_la21 ne_ha21_la21 ne_b16_ha21 ne_b16_la21) hZ (hq hw 37 rfl) (hq hw 5 rfl) (by decide) (by decide)) q44a q44c (g := (mkF m 122 #[.val (.int p0), .val (.long q1), .second, .val (.int p2), .val (.int p3), .val (.int (0 : Int32)), .val (.int (1 : Int32)), .val (.long dd), .second, .val (.long na), .second, .val (.long nb), .second, .val (.long j10), .second, .val (.double vv), .second, .val (.ref b16), .val (.double qh31), .second, .unset, .unset] [(.int (0 : Int32)), (.ref b16)])) rfl (by rw [hml]; rfl) (Steps.refl _) (argsL := [(.int (0 : Int32))]) (rest := []) (lenOf pd_5 rfl) rfl (by show 2 * 0 + _ ≤ _; exact Nat.le_of_eq rfl) (hb hby at_122) (fun _ _ => ⟨rfl, rfl, (by decide : 3 + 0 ≤ _), (by decide : 6 + 0 ≤ _)⟩)
    dsimp only [Pt.U, Pt.locs, Pt.cells, Pt.slots] at X44 l44 y44 z44 st44 hQ44
    subst l44 y44 z44
    obtain ⟨rfl, N44q, eh44⟩ := hQ44
    have N44 := Fr.app N38 N44q
    have G45 : ∀ t, Steps p.tables e below (T44.setTop (mkF m 128 #[.val (.int p0), .val (.long q1), .second, .val (.int p2), .val (.int p3), .val (.int (0 : Int32)), .val (.int (1 : Int32)), .val (.long dd), .second, .val (.long na), .second, .val (.long nb), .second, .val (.long j10), .second, .val (.double vv), .second, .val (.ref b16), .val (.double qh31), .second, .unset, .unset] [(.int (cmpValue (FP.dcmp vv vv) CmpOp.l))])) t → Steps p.tables e below (s₁.setTop (entryFrame m #[(.int p0), (.long q1), (.int p2), (.int p3)] maxLocals)) t := by
      intro t kt
      refine G15 _ ?_
      show Steps p.tables e below (s₁.setTop (mkF m 68 #[.val (.int p0), .val (.long q1), .second, .val (.int p2), .val (.int p3), .val (.int (0 : Int32)), .val (.int (1 : Int32)), .val (.long dd), .second, .val (.long na), .second, .val (.long nb), .second, .val (.long j10), .second, .val (.double vv), .second, .unset, .unset, .unset, .unset, .unset] [])) _
      refine st16 _ ?_
      show Steps p.tables e below (T16.setTop (mkF m 71 #[.val (.int p0), .val (.long q1), .second, .val (.int p2), .val (.int p3), .val (.int (0 : Int32)), .val (.int (1 : Int32)), .val (.long dd), .second, .val (.long na), .second, .val (.long nb), .second, .val (.long j10), .second, .val (.double vv), .second, .unset, .unset, .unset, .unset, .unset] [(.ref b16)])) _
      refine XS.dup X16.here hx rfl (hb hby at_71) rfl rfl ?_
      show Steps p.tables e below (T16.setTop (mkF m 72 #[.val (.int p0), .val (.long q1), .second, .val (.int p2), .val (.int p3), .val (.int (0 : Int32)), .val (.int (1 : Int32)), .val (.long dd), .second, .val (.long na), .second, .val (.long nb), .second, .val (.long j10), .second, .val (.double vv), .second, .unset, .unset, .unset, .unset, .unset] [(.ref b16), (.ref b16)])) _
      refine XS.iconst X16.here hx rfl (hb hby at_72) ?_
      show Steps p.tables e below (T16.setTop (mkF m 73 #[.val (.int p0), .val (.long q1), .second, .val (.int p2), .val (.int p3), .val (.int (0 : Int32)), .val (.int (1 : Int32)), .val (.long dd), .second, .val (.long na), .second, .val (.long nb), .second, .val (.long j10), .second, .val (.double vv), .second, .unset, .unset, .unset, .unset, .unset] [(.int (2 : Int32)), (.ref b16), (.ref b16)])) _
      refine st21.trans ?_
      show Steps p.tables e below (T21.setTop (mkF m 76 #[.val (.int p0), .val (.long q1), .second, .val (.int p2), .val (.int p3), .val (.int (0 : Int32)), .val (.int (1 : Int32)), .val (.long dd), .second, .val (.long na), .second, .val (.long nb), .second, .val (.long j10), .second, .val (.double vv), .second, .unset, .unset, .unset, .unset, .unset] [(.ref b16)])) _
      refine XS.astore X21.here hx rfl (hb hby at_76) rfl rfl (l' := #[.val (.int p0), .val (.long q1), .second, .val (.int p2), .val (.int p3), .val (.int (0 : Int32)), .val (.int (1 : Int32)), .val (.long dd), .second, .val (.long na), .second, .val (.long nb), .second, .val (.long j10), .second, .val (.double vv), .second, .val (.ref b16), .unset, .unset, .unset, .unset]) rfl ?_
      show Steps p.tables e below (T21.setTop (mkF m 78 #[.val (.int p0), .val (.long q1), .second, .val (.int p2), .val (.int p3), .val (.int (0 : Int32)), .val (.int (1 : Int32)), .val (.long dd), .second, .val (.long na), .second, .val (.long nb), .second, .val (.long j10), .second, .val (.double vv), .second, .val (.ref b16), .unset, .unset, .unset, .unset] [])) _
      refine XS.aload X21.here hx rfl (hb hby at_78) rfl rfl ?_
      show Steps p.tables e below (T21.setTop (mkF m 80 #[.val (.int p0), .val (.long q1), .second, .val (.int p2), .val (.int p3), .val (.int (0 : Int32)), .val (.int (1 : Int32)), .val (.long dd), .second, .val (.long na), .second, .val (.long nb), .second, .val (.long j10), .second, .val (.double vv), .second, .val (.ref b16), .unset, .unset, .unset, .unset] [(.ref b16)])) _
      refine XS.iload X21.here hx rfl (hb hby at_80) rfl ?_
      show Steps p.tables e below (T21.setTop (mkF m 82 #[.val (.int p0), .val (.long q1), .second, .val (.int p2), .val (.int p3), .val (.int (0 : Int32)), .val (.int (1 : Int32)), .val (.long dd), .second, .val (.long na), .second, .val (.long nb), .second, .val (.long j10), .second, .val (.double vv), .second, .val (.ref b16), .unset, .unset, .unset, .unset] [(.int (0 : Int32)), (.ref b16)])) _
      refine XS.lload X21.here hx rfl (hb hby at_82) rfl ?_
      show Steps p.tables e below (T21.setTop (mkF m 84 #[.val (.int p0), .val (.long q1), .second, .val (.int p2), .val (.int p3), .val (.int (0 : Int32)), .val (.int (1 : Int32)), .val (.long dd), .second, .val (.long na), .second, .val (.long nb), .second, .val (.long j10), .second, .val (.double vv), .second, .val (.ref b16), .unset, .unset, .unset, .unset] [(.long na), (.int (0 : Int32)), (.ref b16)])) _
      refine XS.lload X21.here hx rfl (hb hby at_84) rfl ?_
      show Steps p.tables e below (T21.setTop (mkF m 86 #[.val (.int p0), .val (.long q1), .second, .val (.int p2), .val (.int p3), .val (.int (0 : Int32)), .val (.int (1 : Int32)), .val (.long dd), .second, .val (.long na), .second, .val (.long nb), .second, .val (.long j10), .second, .val (.double vv), .second, .val (.ref b16), .unset, .unset, .unset, .unset] [(.long dd), (.long na), (.int (0 : Int32)), (.ref b16)])) _
      refine st25.trans ?_
      show Steps p.tables e below (T25.setTop (mkF m 89 #[.val (.int p0), .val (.long q1), .second, .val (.int p2), .val (.int p3), .val (.int (0 : Int32)), .val (.int (1 : Int32)), .val (.long dd), .second, .val (.long na), .second, .val (.long nb), .second, .val (.long j10), .second, .val (.double vv), .second, .val (.ref b16), .unset, .unset, .unset, .unset] [])) _
      refine XS.aload X25.here hx rfl (hb hby at_89) rfl rfl ?_
      show Steps p.tables e below (T25.setTop (mkF m 91 #[.val (.int p0), .val (.long q1), .second, .val (.int p2), .val (.int p3), .val (.int (0 : Int32)), .val (.int (1 : Int32)), .val (.long dd), .second, .val (.long na), .second, .val (.long nb), .second, .val (.long j10), .second, .val (.double vv), .second, .val (.ref b16), .unset, .unset, .unset, .unset] [(.ref b16)])) _
      refine XS.iload X25.here hx rfl (hb hby at_91) rfl ?_
      show Steps p.tables e below (T25.setTop (mkF m 93 #[.val (.int p0), .val (.long q1), .second, .val (.int p2), .val (.int p3), .val (.int (0 : Int32)), .val (.int (1 : Int32)), .val (.long dd), .second, .val (.long na), .second, .val (.long nb), .second, .val (.long j10), .second, .val (.double vv), .second, .val (.ref b16), .unset, .unset, .unset, .unset] [(.int (1 : Int32)), (.ref b16)])) _
      refine XS.lload X25.here hx rfl (hb hby at_93) rfl ?_
      show Steps p.tables e below (T25.setTop (mkF m 95 #[.val (.int p0), .val (.long q1), .second, .val (.int p2), .val (.int p3), .val (.int (0 : Int32)), .val (.int (1 : Int32)), .val (.long dd), .second, .val (.long na), .second, .val (.long nb), .second, .val (.long j10), .second, .val (.double vv), .second, .val (.ref b16), .unset, .unset, .unset, .unset] [(.long nb), (.int (1 : Int32)), (.ref b16)])) _
      refine XS.lload X25.here hx rfl (hb hby at_95) rfl ?_
      show Steps p.tables e below (T25.setTop (mkF m 97 #[.val (.int p0), .val (.long q1), .second, .val (.int p2), .val (.int p3), .val (.int (0 : Int32)), .val (.int (1 : Int32)), .val (.long dd), .second, .val (.long na), .second, .val (.long nb), .second, .val (.long j10), .second, .val (.double vv), .second, .val (.ref b16), .unset, .unset, .unset, .unset] [(.long dd), (.long nb), (.int (1 : Int32)), (.ref b16)])) _
      refine st31.trans ?_
      show Steps p.tables e below (T31.setTop (mkF m 100 #[.val (.int p0), .val (.long q1), .second, .val (.int p2), .val (.int p3), .val (.int (0 : Int32)), .val (.int (1 : Int32)), .val (.long dd), .second, .val (.long na), .second, .val (.long nb), .second, .val (.long j10), .second, .val (.double vv), .second, .val (.ref b16), .unset, .unset, .unset, .unset] [])) _
      refine XS.aload X31.here hx rfl (hb hby at_100) rfl rfl ?_
      show Steps p.tables e below (T31.setTop (mkF m 102 #[.val (.int p0), .val (.long q1), .second, .val (.int p2), .val (.int p3), .val (.int (0 : Int32)), .val (.int (1 : Int32)), .val (.long dd), .second, .val (.long na), .second, .val (.long nb), .second, .val (.long j10), .second, .val (.double vv), .second, .val (.ref b16), .unset, .unset, .unset, .unset] [(.ref b16)])) _
      refine XS.iload X31.here hx rfl (hb hby at_102) rfl ?_
      show Steps p.tables e below (T31.setTop (mkF m 104 #[.val (.int p0), .val (.long q1), .second, .val (.int p2), .val (.int p3), .val (.int (0 : Int32)), .val (.int (1 : Int32)), .val (.long dd), .second, .val (.long na), .second, .val (.long nb), .second, .val (.long j10), .second, .val (.double vv), .second, .val (.ref b16), .unset, .unset, .unset, .unset] [(.int (1 : Int32)), (.ref b16)])) _
      refine st37.trans ?_
      show Steps p.tables e below (T37.setTop (mkF m 107 #[.val (.int p0), .val (.long q1), .second, .val (.int p2), .val (.int p3), .val (.int (0 : Int32)), .val (.int (1 : Int32)), .val (.long dd), .second, .val (.long na), .second, .val (.long nb), .second, .val (.long j10), .second, .val (.double vv), .second, .val (.ref b16), .unset, .unset, .unset, .unset] [(.double qh31)])) _
      refine XS.dstore X37.here hx rfl (hb hby at_107) rfl (l' := #[.val (.int p0), .val (.long q1), .second, .val (.int p2), .val (.int p3), .val (.int (0 : Int32)), .val (.int (1 : Int32)), .val (.long dd), .second, .val (.long na), .second, .val (.long nb), .second, .val (.long j10), .second, .val (.double vv), .second, .val (.ref b16), .val (.double qh31), .second, .unset, .unset]) rfl ?_
      show Steps p.tables e below (T37.setTop (mkF m 109 #[.val (.int p0), .val (.long q1), .second, .val (.int p2), .val (.int p3), .val (.int (0 : Int32)), .val (.int (1 : Int32)), .val (.long dd), .second, .val (.long na), .second, .val (.long nb), .second, .val (.long j10), .second, .val (.double vv), .second, .val (.ref b16), .val (.double qh31), .second, .unset, .unset] [])) _
      refine XS.aload X37.here hx rfl (hb hby at_109) rfl rfl ?_
      show Steps p.tables e below (T37.setTop (mkF m 111 #[.val (.int p0), .val (.long q1), .second, .val (.int p2), .val (.int p3), .val (.int (0 : Int32)), .val (.int (1 : Int32)), .val (.long dd), .second, .val (.long na), .second, .val (.long nb), .second, .val (.long j10), .second, .val (.double vv), .second, .val (.ref b16), .val (.double qh31), .second, .unset, .unset] [(.ref b16)])) _
      refine XS.iload X37.here hx rfl (hb hby at_111) rfl ?_
      show Steps p.tables e below (T37.setTop (mkF m 113 #[.val (.int p0), .val (.long q1), .second, .val (.int p2), .val (.int p3), .val (.int (0 : Int32)), .val (.int (1 : Int32)), .val (.long dd), .second, .val (.long na), .second, .val (.long nb), .second, .val (.long j10), .second, .val (.double vv), .second, .val (.ref b16), .val (.double qh31), .second, .unset, .unset] [(.int (0 : Int32)), (.ref b16)])) _
      refine XS.dload X37.here hx rfl (hb hby at_113) rfl ?_
      show Steps p.tables e below (T37.setTop (mkF m 115 #[.val (.int p0), .val (.long q1), .second, .val (.int p2), .val (.int p3), .val (.int (0 : Int32)), .val (.int (1 : Int32)), .val (.long dd), .second, .val (.long na), .second, .val (.long nb), .second, .val (.long j10), .second, .val (.double vv), .second, .val (.ref b16), .val (.double qh31), .second, .unset, .unset] [(.double vv), (.int (0 : Int32)), (.ref b16)])) _
      refine st38.trans ?_
      show Steps p.tables e below (T38.setTop (mkF m 118 #[.val (.int p0), .val (.long q1), .second, .val (.int p2), .val (.int p3), .val (.int (0 : Int32)), .val (.int (1 : Int32)), .val (.long dd), .second, .val (.long na), .second, .val (.long nb), .second, .val (.long j10), .second, .val (.double vv), .second, .val (.ref b16), .val (.double qh31), .second, .unset, .unset] [])) _
      refine XS.aload X38.here hx rfl (hb hby at_118) rfl rfl ?_
      show Steps p.tables e below (T38.setTop (mkF m 120 #[.val (.int p0), .val (.long q1), .second, .val (.int p2), .val (.int p3), .val (.int (0 : Int32)), .val (.int (1 : Int32)), .val (.long dd), .second, .val (.long na), .second, .val (.long nb), .second, .val (.long j10), .second, .val (.double vv), .second, .val (.ref b16), .val (.double qh31), .second, .unset, .unset] [(.ref b16)])) _
      refine XS.iload X38.here hx rfl (hb hby at_120) rfl ?_
      show Steps p.tables e below (T38.setTop (mkF m 122 #[.val (.int p0), .val (.long q1), .second, .val (.int p2), .val (.int p3), .val (.int (0 : Int32)), .val (.int (1 : Int32)), .val (.long dd), .second, .val (.long na), .second, .val (.long nb), .second, .val (.long j10), .second, .val (.double vv), .second, .val (.ref b16), .val (.double qh31), .second, .unset, .unset] [(.int (0 : Int32)), (.ref b16)])) _
      refine st44.trans ?_
      show Steps p.tables e below (T44.setTop (mkF m 125 #[.val (.int p0), .val (.long q1), .second, .val (.int p2), .val (.int p3), .val (.int (0 : Int32)), .val (.int (1 : Int32)), .val (.long dd), .second, .val (.long na), .second, .val (.long nb), .second, .val (.long j10), .second, .val (.double vv), .second, .val (.ref b16), .val (.double qh31), .second, .unset, .unset] [(.double vv)])) _
      refine XS.dload X44.here hx rfl (hb hby at_125) rfl ?_
      show Steps p.tables e below (T44.setTop (mkF m 127 #[.val (.int p0), .val (.long q1), .second, .val (.int p2), .val (.int p3), .val (.int (0 : Int32)), .val (.int (1 : Int32)), .val (.long dd), .second, .val (.long na), .second, .val (.long nb), .second, .val (.long j10), .second, .val (.double vv), .second, .val (.ref b16), .val (.double qh31), .second, .unset, .unset] [(.double vv), (.double vv)])) _
      refine XS.dcmpS X44.here hx rfl (hb hby at_127) rfl rfl ?_
      exact kt
    have hc128_46 : (cmpValue (FP.dcmp vv vv) CmpOp.l) = (0 : Int32) := own_same (own_bv hmr hvv) _
    obtain ⟨cq47, kq47, q47a, q47b, q47c⟩ := isOf hZ eh44 fa39
    obtain ⟨_, _, ⟨T47, L47, k47, n47⟩, -, X47, ⟨Lc47, hQ47, l47, y47, z47⟩, st47⟩ := X44.virtualBack hx (y := (⟨"com/example/degree/degree/retrieval/DoubleDoubles", "rounded", "(I)D"⟩ : MethodName)) (z := (⟨"com/example/degree/degree/retrieval/DoubleDoubles", "rounded", "(I)D"⟩ : MethodName)) hown (mvT hZ (hq hw 33 rfl)) (mvT hZ (hq hw 34 rfl)) (notFace_of_selects (args := #[]) (mvT hZ (hq hw 36 rfl))) (mvT hZ (hq hw 36 rfl)) (mvT hZ (hq hw 35 rfl)) (by decide) (backOf (W := 0) (rm_rounded_1 l Z a0 hw [] b16 ha21 la21 kh21 kl21 vv qh31 FP.dconst0 ql31 T38.heap n0 z42 fa39 fa40 fa41 Vh38 Vl38 g_ha21 g_la21 ne_ha21_la21 ne_b16_ha21 ne_b16_la21) hZ (hq hw 37 rfl) (hq hw 5 rfl) (by decide) (by decide)) q47a q47c (g := (mkF m 135 #[.val (.int p0), .val (.long q1), .second, .val (.int p2), .val (.int p3), .val (.int (0 : Int32)), .val (.int (1 : Int32)), .val (.long dd), .second, .val (.long na), .second, .val (.long nb), .second, .val (.long j10), .second, .val (.double vv), .second, .val (.ref b16), .val (.double qh31), .second, .unset, .unset] [(.int (1 : Int32)), (.ref b16)])) rfl (by rw [hml]; rfl) (Steps.refl _) (argsL := [(.int (1 : Int32))]) (rest := []) (lenOf pd_5 rfl) rfl (by show 2 * 0 + _ ≤ _; exact Nat.le_of_eq rfl) (hb hby at_135) (fun _ _ => ⟨rfl, eh44, (by decide : 3 + 0 ≤ _), (by decide : 6 + 0 ≤ _)⟩)
    dsimp only [Pt.U, Pt.locs, Pt.cells, Pt.slots] at X47 l47 y47 z47 st47 hQ47
    subst l47 y47 z47
    obtain ⟨rfl, N47q, eh47⟩ := hQ47
    have N47 := Fr.app N44 N47q
    have G48 : ∀ t, Steps p.tables e below (T47.setTop (mkF m 141 #[.val (.int p0), .val (.long q1), .second, .val (.int p2), .val (.int p3), .val (.int (0 : Int32)), .val (.int (1 : Int32)), .val (.long dd), .second, .val (.long na), .second, .val (.long nb), .second, .val (.long j10), .second, .val (.double vv), .second, .val (.ref b16), .val (.double qh31), .second, .unset, .unset] [(.int (cmpValue (FP.dcmp qh31 qh31) CmpOp.l))])) t → Steps p.tables e below (s₁.setTop (entryFrame m #[(.int p0), (.long q1), (.int p2), (.int p3)] maxLocals)) t := by
      intro t kt
      refine G45 _ ?_
      show Steps p.tables e below (T44.setTop (mkF m 128 #[.val (.int p0), .val (.long q1), .second, .val (.int p2), .val (.int p3), .val (.int (0 : Int32)), .val (.int (1 : Int32)), .val (.long dd), .second, .val (.long na), .second, .val (.long nb), .second, .val (.long j10), .second, .val (.double vv), .second, .val (.ref b16), .val (.double qh31), .second, .unset, .unset] [(.int (cmpValue (FP.dcmp vv vv) CmpOp.l))])) _
      refine XS.ifNo X44.here hx rfl (hb hby at_128) rfl ((if0 _ _).trans (teq hc128_46).2) ?_
      show Steps p.tables e below (T44.setTop (mkF m 131 #[.val (.int p0), .val (.long q1), .second, .val (.int p2), .val (.int p3), .val (.int (0 : Int32)), .val (.int (1 : Int32)), .val (.long dd), .second, .val (.long na), .second, .val (.long nb), .second, .val (.long j10), .second, .val (.double vv), .second, .val (.ref b16), .val (.double qh31), .second, .unset, .unset] [])) _
      refine XS.aload X44.here hx rfl (hb hby at_131) rfl rfl ?_
      show Steps p.tables e below (T44.setTop (mkF m 133 #[.val (.int p0), .val (.long q1), .second, .val (.int p2), .val (.int p3), .val (.int (0 : Int32)), .val (.int (1 : Int32)), .val (.long dd), .second, .val (.long na), .second, .val (.long nb), .second, .val (.long j10), .second, .val (.double vv), .second, .val (.ref b16), .val (.double qh31), .second, .unset, .unset] [(.ref b16)])) _
      refine XS.iload X44.here hx rfl (hb hby at_133) rfl ?_
      show Steps p.tables e below (T44.setTop (mkF m 135 #[.val (.int p0), .val (.long q1), .second, .val (.int p2), .val (.int p3), .val (.int (0 : Int32)), .val (.int (1 : Int32)), .val (.long dd), .second, .val (.long na), .second, .val (.long nb), .second, .val (.long j10), .second, .val (.double vv), .second, .val (.ref b16), .val (.double qh31), .second, .unset, .unset] [(.int (1 : Int32)), (.ref b16)])) _
      refine st47.trans ?_
      show Steps p.tables e below (T47.setTop (mkF m 138 #[.val (.int p0), .val (.long q1), .second, .val (.int p2), .val (.int p3), .val (.int (0 : Int32)), .val (.int (1 : Int32)), .val (.long dd), .second, .val (.long na), .second, .val (.long nb), .second, .val (.long j10), .second, .val (.double vv), .second, .val (.ref b16), .val (.double qh31), .second, .unset, .unset] [(.double qh31)])) _
      refine XS.dload X47.here hx rfl (hb hby at_138) rfl ?_
      show Steps p.tables e below (T47.setTop (mkF m 140 #[.val (.int p0), .val (.long q1), .second, .val (.int p2), .val (.int p3), .val (.int (0 : Int32)), .val (.int (1 : Int32)), .val (.long dd), .second, .val (.long na), .second, .val (.long nb), .second, .val (.long j10), .second, .val (.double vv), .second, .val (.ref b16), .val (.double qh31), .second, .unset, .unset] [(.double qh31), (.double qh31)])) _
      refine XS.dcmpS X47.here hx rfl (hb hby at_140) rfl rfl ?_
      exact kt
    have hc141_49 : (cmpValue (FP.dcmp qh31 qh31) CmpOp.l) = (0 : Int32) := own_same (k := 2334) (hqh31 ▸ (own_ok3 nb dd hbr.1 hbr.2 hdr.1 hdr.2).2.1) _
    obtain ⟨T50, h50, X50, e50, E50, A50, D50, -, st50⟩ := newO X47 hx hZ hown (hq hw 3 rfl) (hq hw 4 rfl) (hq hw 5 rfl) eh47 (g := (mkF m 151 #[.val (.int p0), .val (.long q1), .second, .val (.int p2), .val (.int p3), .val (.int (0 : Int32)), .val (.int (1 : Int32)), .val (.long dd), .second, .val (.long na), .second, .val (.long nb), .second, .val (.long j10), .second, .val (.double vv), .second, .val (.ref b16), .val (.double qh31), .second, .val (.int (1 : Int32)), .unset] [])) rfl (hb hby at_151) (by decide) (by decide)
    obtain ⟨b50, g50⟩ : ∃ z, z = T38.heap.size := ⟨_, rfl⟩
    rw [← g50] at A50 D50 st50
    have g_b50 : n0 ≤ b50 := Nat.le_trans z42 (Nat.le_of_eq g50.symm)
    have sz_b50 : h0.size ≤ b50 := Nat.le_trans kp43.1 (Nat.le_of_eq g50.symm)
    have ne_b16_b50 : b16 ≠ b50 := Nat.ne_of_lt (Nat.lt_of_lt_of_le fa39.lt (Nat.le_of_eq g50.symm))
    have ne_ha21_b50 : ha21 ≠ b50 := Nat.ne_of_lt (Nat.lt_of_lt_of_le Vh38.lt (Nat.le_of_eq g50.symm))
    have ne_la21_b50 : la21 ≠ b50 := Nat.ne_of_lt (Nat.lt_of_lt_of_le Vl38.lt (Nat.le_of_eq g50.symm))
    have fa51 := fa39.ext E50
    have fa52 := fa40.ext E50
    have fa53 := fa41.ext E50
    have fa54 := Vh38.ext E50
    have fa55 := Vl38.ext E50
    have z56 : n0 ≤ h50.size := Nat.le_trans z42 E50.1
    have kp57 : Keep h0 h50 [] := kp43.ext E50
    have fa58 : Fld Z h50 b50 "com/example/degree/degree/retrieval/DoubleDoubles" "high" "[D" .null := D50 (Or.inr (hq hw 14 rfl)) (ty := (.array .double)) (by decide)
    have fa59 : Fld Z h50 b50 "com/example/degree/degree/retrieval/DoubleDoubles" "low" "[D" .null := D50 (Or.inr (hq hw 16 rfl)) (ty := (.array .double)) (by decide)
    obtain ⟨_, _, ⟨T60, L60, k60, n60⟩, -, X60, ⟨Lc60, hQ60, l60, y60, z60⟩, st60⟩ := X50.specialBack hx (y := (⟨"com/example/degree/degree/retrieval/DoubleDoubles", "<init>", "(I)V"⟩ : MethodName)) rfl hown (mvT hZ (hq hw 6 rfl)) (mvT hZ (hq hw 7 rfl)) (mvT hZ (hq hw 8 rfl)) (by decide) (backOf (W := 1) (rm1 l Z a0 hw [] b50 h50 n0 z56 A50 fa58 fa59 g_b50) hZ (hq hw 8 rfl) (hq hw 5 rfl) (by decide) (by decide)) (g := (mkF m 156 #[.val (.int p0), .val (.long q1), .second, .val (.int p2), .val (.int p3), .val (.int (0 : Int32)), .val (.int (1 : Int32)), .val (.long dd), .second, .val (.long na), .second, .val (.long nb), .second, .val (.long j10), .second, .val (.double vv), .second, .val (.ref b16), .val (.double qh31), .second, .val (.int (1 : Int32)), .unset] [(.int (2 : Int32)), (.ref b50), (.ref b50)])) rfl (by rw [hml]; rfl) (Steps.refl _) (a := b50) (argsL := [(.int (2 : Int32))]) (rest := [(.ref b50)]) (lenOf pd_3 rfl) rfl (by show 2 * 0 + _ ≤ _; exact Nat.le_of_eq rfl) (hb hby at_156) (fun _ _ => ⟨rfl, e50, (by decide : 4 + 2 ≤ _), (by decide : 8 + 4 ≤ _)⟩)
    dsimp only [Pt.U, Pt.locs, Pt.cells, Pt.slots] at X60 l60 y60 z60 st60 hQ60
    subst l60 y60 z60
    obtain ⟨rfl, N60q, K60, A60, ha60, la60, kh60, kl60, Fh60, Fl60, Vh60, Vl60, sq_ha60, sq_la60, ne_ha60_la60⟩ := hQ60
    have N60 := Fr.app N47 N60q
    have ne_b16_ha60 : b16 ≠ ha60 := Nat.ne_of_lt (Nat.lt_of_lt_of_le fa51.lt sq_ha60)
    have ne_b16_la60 : b16 ≠ la60 := Nat.ne_of_lt (Nat.lt_of_lt_of_le fa51.lt sq_la60)
    have ne_ha21_ha60 : ha21 ≠ ha60 := Nat.ne_of_lt (Nat.lt_of_lt_of_le fa54.lt sq_ha60)
    have ne_ha21_la60 : ha21 ≠ la60 := Nat.ne_of_lt (Nat.lt_of_lt_of_le fa54.lt sq_la60)
    have ne_la21_ha60 : la21 ≠ ha60 := Nat.ne_of_lt (Nat.lt_of_lt_of_le fa55.lt sq_ha60)
    have ne_la21_la60 : la21 ≠ la60 := Nat.ne_of_lt (Nat.lt_of_lt_of_le fa55.lt sq_la60)
    have ne_b50_ha60 : b50 ≠ ha60 := Nat.ne_of_lt (Nat.lt_of_lt_of_le A50.lt sq_ha60)
    have ne_b50_la60 : b50 ≠ la60 := Nat.ne_of_lt (Nat.lt_of_lt_of_le A50.lt sq_la60)
    have g_ha60 : n0 ≤ ha60 := Nat.le_trans z56 sq_ha60
    have sz_ha60 : h0.size ≤ ha60 := Nat.le_trans kp57.1 sq_ha60
    have g_la60 : n0 ≤ la60 := Nat.le_trans z56 sq_la60
    have sz_la60 : h0.size ≤ la60 := Nat.le_trans kp57.1 sq_la60
    have fa61 := fa51.keep K60
    have fa62 := fa52.keep K60 (ninS ne_b16_b50 nin0)
    have fa63 := fa53.keep K60 (ninS ne_b16_b50 nin0)
    have fa64 := fa54.keep K60 (ninS ne_ha21_b50 nin0)
    have fa65 := fa55.keep K60 (ninS ne_la21_b50 nin0)
    have fa66 := A50.keep K60
    have z67 : n0 ≤ T60.heap.size := Nat.le_trans z56 K60.1
    have kp68 : Keep h0 T60.heap [] := kp57.trans K60 (allS (Or.inr sz_b50) all0)
    obtain ⟨cq69, kq69, q69a, q69b, q69c⟩ := isOf hZ rfl fa66
    obtain ⟨_, _, ⟨T69, L69, k69, n69⟩, -, X69, ⟨Lc69, hQ69, l69, y69, z69⟩, st69⟩ := X60.virtualBack hx (y := (⟨"com/example/degree/degree/retrieval/DoubleDoubles", "fill", "(D)V"⟩ : MethodName)) (z := (⟨"com/example/degree/degree/retrieval/DoubleDoubles", "fill", "(D)V"⟩ : MethodName)) hown (mvT hZ (hq hw 43 rfl)) (mvT hZ (hq hw 44 rfl)) (notFace_of_selects (args := #[]) (mvT hZ (hq hw 46 rfl))) (mvT hZ (hq hw 46 rfl)) (mvT hZ (hq hw 45 rfl)) (by decide) (backOf (W := 0) (rm9 l Z a0 hw [] b50 FP.dconst1 ha60 la60 kh60 kl60 0 0 0 0 T60.heap n0 z67 fa66 Fh60 Fl60 Vh60 Vl60 g_ha60 g_la60 ne_ha60_la60 ne_b50_ha60 ne_b50_la60) hZ (hq hw 47 rfl) (hq hw 5 rfl) (by decide) (by decide)) q69a q69c (g := (mkF m 164 #[.val (.int p0), .val (.long q1), .second, .val (.int p2), .val (.int p3), .val (.int (0 : Int32)), .val (.int (1 : Int32)), .val (.long dd), .second, .val (.long na), .second, .val (.long nb), .second, .val (.long j10), .second, .val (.double vv), .second, .val (.ref b16), .val (.double qh31), .second, .val (.int (1 : Int32)), .val (.ref b50)] [(.double FP.dconst1), (.ref b50)])) rfl (by rw [hml]; rfl) (Steps.refl _) (argsL := [(.double FP.dconst1)]) (rest := []) (lenOf pd_7 rfl) rfl (by show 2 * 0 + _ ≤ _; exact Nat.le_of_eq rfl) (hb hby at_164) (fun _ _ => ⟨rfl, rfl, (by decide : 6 + 0 ≤ _), (by decide : 12 + 0 ≤ _)⟩)
    dsimp only [Pt.U, Pt.locs, Pt.cells, Pt.slots] at X69 l69 y69 z69 st69 hQ69
    subst l69 y69 z69
    obtain ⟨rfl, N69q, K69, Vh69, Vl69⟩ := hQ69
    have N69 := Fr.app N60 N69q
    have fa70 := fa61.keep K69
    have fa71 := fa62.keep K69 (ninS ne_b16_ha60 (ninS ne_b16_la60 nin0))
    have fa72 := fa63.keep K69 (ninS ne_b16_ha60 (ninS ne_b16_la60 nin0))
    have fa73 := fa64.keep K69 (ninS ne_ha21_ha60 (ninS ne_ha21_la60 nin0))
    have fa74 := fa65.keep K69 (ninS ne_la21_ha60 (ninS ne_la21_la60 nin0))
    have fa75 := fa66.keep K69
    have fa76 := Fh60.keep K69 (ninS ne_b50_ha60 (ninS ne_b50_la60 nin0))
    have fa77 := Fl60.keep K69 (ninS ne_b50_ha60 (ninS ne_b50_la60 nin0))
    have z78 : n0 ≤ T69.heap.size := Nat.le_trans z67 K69.1
    have kp79 : Keep h0 T69.heap [] := kp68.trans K69 (allS (Or.inr sz_ha60) (allS (Or.inr sz_la60) all0))
    obtain ⟨cq80, kq80, q80a, q80b, q80c⟩ := isOf hZ rfl fa75
    obtain ⟨_, _, ⟨T80, L80, k80, n80⟩, -, X80, ⟨Lc80, hQ80, l80, y80, z80⟩, st80⟩ := X69.virtualBack hx (y := (⟨"com/example/degree/degree/retrieval/DoubleDoubles", "multiplyByComplements", "(Lcom/example/degree/degree/retrieval/DoubleDoubles;)V"⟩ : MethodName)) (z := (⟨"com/example/degree/degree/retrieval/DoubleDoubles", "multiplyByComplements", "(Lcom/example/degree/degree/retrieval/DoubleDoubles;)V"⟩ : MethodName)) hown (mvT hZ (hq hw 52 rfl)) (mvT hZ (hq hw 53 rfl)) (notFace_of_selects (args := #[]) (mvT hZ (hq hw 55 rfl))) (mvT hZ (hq hw 55 rfl)) (mvT hZ (hq hw 54 rfl)) (by decide) (backOf (W := 0) (rm11 l Z a0 hw [] b50 b16 ha60 la60 kh60 kl60 FP.dconst1 FP.dconst1 FP.dconst0 FP.dconst0 ha21 la21 kh21 kl21 vv qh31 FP.dconst0 ql31 T69.heap n0 z78 fa75 fa76 fa77 Vh69 Vl69 fa70 fa71 fa72 fa73 fa74 g_ha60 g_la60 ne_ha60_la60 ne_b50_ha60 ne_b50_la60 ne_b16_ha60 ne_b16_la60 ne_ha21_ha60 ne_ha21_la60 ne_la21_ha60 ne_la21_la60 (own_ok11 (own_bv hmr hvv) (own_bm own_b0 (by decide)) (own_bm (hqh31 ▸ (own_ok3 nb dd hbr.1 hbr.2 hdr.1 hdr.2).2.1) (by decide)) (own_bm (hql31 ▸ (own_ok3 nb dd hbr.1 hbr.2 hdr.1 hdr.2).2.2) (by decide)))) hZ (hq hw 56 rfl) (hq hw 5 rfl) (by decide) (by decide)) q80a q80c (g := (mkF m 171 #[.val (.int p0), .val (.long q1), .second, .val (.int p2), .val (.int p3), .val (.int (0 : Int32)), .val (.int (1 : Int32)), .val (.long dd), .second, .val (.long na), .second, .val (.long nb), .second, .val (.long j10), .second, .val (.double vv), .second, .val (.ref b16), .val (.double qh31), .second, .val (.int (1 : Int32)), .val (.ref b50)] [(.ref b16), (.ref b50)])) rfl (by rw [hml]; rfl) (Steps.refl _) (argsL := [(.ref b16)]) (rest := []) (lenOf pd_8 rfl) rfl (by show 2 * 0 + _ ≤ _; exact Nat.le_of_eq rfl) (hb hby at_171) (fun _ _ => ⟨rfl, rfl, (by decide : 6 + 0 ≤ _), (by decide : 12 + 0 ≤ _)⟩)
    dsimp only [Pt.U, Pt.locs, Pt.cells, Pt.slots] at X80 l80 y80 z80 st80 hQ80
    subst l80 y80 z80
    obtain ⟨rfl, N80q, K80, Vh80, Vl80⟩ := hQ80
    have N80 := Fr.app N69 N80q
    have fa81 := fa70.keep K80
    have fa82 := fa71.keep K80 (ninS ne_b16_ha60 (ninS ne_b16_la60 nin0))
    have fa83 := fa72.keep K80 (ninS ne_b16_ha60 (ninS ne_b16_la60 nin0))
    have fa84 := fa73.keep K80 (ninS ne_ha21_ha60 (ninS ne_ha21_la60 nin0))
    have fa85 := fa74.keep K80 (ninS ne_la21_ha60 (ninS ne_la21_la60 nin0))
    have fa86 := fa75.keep K80
    have fa87 := fa76.keep K80 (ninS ne_b50_ha60 (ninS ne_b50_la60 nin0))
    have fa88 := fa77.keep K80 (ninS ne_b50_ha60 (ninS ne_b50_la60 nin0))
    have z89 : n0 ≤ T80.heap.size := Nat.le_trans z78 K80.1
    have kp90 : Keep h0 T80.heap [] := kp79.trans K80 (allS (Or.inr sz_ha60) (allS (Or.inr sz_la60) all0))
    have G91 : ∀ t, Steps p.tables e below (T80.setTop (mkF m 176 #[.val (.int p0), .val (.long q1), .second, .val (.int p2), .val (.int p3), .val (.int (0 : Int32)), .val (.int (1 : Int32)), .val (.long dd), .second, .val (.long na), .second, .val (.long nb), .second, .val (.long j10), .second, .val (.double vv), .second, .val (.ref b16), .val (.double qh31), .second, .val (.int (1 : Int32)), .val (.ref b50)] [(.int (1 : Int32))])) t → Steps p.tables e below (s₁.setTop (entryFrame m #[(.int p0), (.long q1), (.int p2), (.int p3)] maxLocals)) t := by
      intro t kt
      refine G48 _ ?_
      show Steps p.tables e below (T47.setTop (mkF m 141 #[.val (.int p0), .val (.long q1), .second, .val (.int p2), .val (.int p3), .val (.int (0 : Int32)), .val (.int (1 : Int32)), .val (.long dd), .second, .val (.long na), .second, .val (.long nb), .second, .val (.long j10), .second, .val (.double vv), .second, .val (.ref b16), .val (.double qh31), .second, .unset, .unset] [(.int (cmpValue (FP.dcmp qh31 qh31) CmpOp.l))])) _
      refine XS.ifNo X47.here hx rfl (hb hby at_141) rfl ((if0 _ _).trans (teq hc141_49).2) ?_
      show Steps p.tables e below (T47.setTop (mkF m 144 #[.val (.int p0), .val (.long q1), .second, .val (.int p2), .val (.int p3), .val (.int (0 : Int32)), .val (.int (1 : Int32)), .val (.long dd), .second, .val (.long na), .second, .val (.long nb), .second, .val (.long j10), .second, .val (.double vv), .second, .val (.ref b16), .val (.double qh31), .second, .unset, .unset] [])) _
      refine XS.iconst X47.here hx rfl (hb hby at_144) ?_
      show Steps p.tables e below (T47.setTop (mkF m 145 #[.val (.int p0), .val (.long q1), .second, .val (.int p2), .val (.int p3), .val (.int (0 : Int32)), .val (.int (1 : Int32)), .val (.long dd), .second, .val (.long na), .second, .val (.long nb), .second, .val (.long j10), .second, .val (.double vv), .second, .val (.ref b16), .val (.double qh31), .second, .unset, .unset] [(.int (1 : Int32))])) _
      refine XS.goto X47.here hx rfl (pc0 := 145) (pc' := 149) rfl (hb hby at_145) (by decide) (by decide) ?_
      show Steps p.tables e below (T47.setTop (mkF m 149 #[.val (.int p0), .val (.long q1), .second, .val (.int p2), .val (.int p3), .val (.int (0 : Int32)), .val (.int (1 : Int32)), .val (.long dd), .second, .val (.long na), .second, .val (.long nb), .second, .val (.long j10), .second, .val (.double vv), .second, .val (.ref b16), .val (.double qh31), .second, .unset, .unset] [(.int (1 : Int32))])) _
      refine XS.istore X47.here hx rfl (hb hby at_149) rfl (l' := #[.val (.int p0), .val (.long q1), .second, .val (.int p2), .val (.int p3), .val (.int (0 : Int32)), .val (.int (1 : Int32)), .val (.long dd), .second, .val (.long na), .second, .val (.long nb), .second, .val (.long j10), .second, .val (.double vv), .second, .val (.ref b16), .val (.double qh31), .second, .val (.int (1 : Int32)), .unset]) rfl ?_
      show Steps p.tables e below (T47.setTop (mkF m 151 #[.val (.int p0), .val (.long q1), .second, .val (.int p2), .val (.int p3), .val (.int (0 : Int32)), .val (.int (1 : Int32)), .val (.long dd), .second, .val (.long na), .second, .val (.long nb), .second, .val (.long j10), .second, .val (.double vv), .second, .val (.ref b16), .val (.double qh31), .second, .val (.int (1 : Int32)), .unset] [])) _
      refine st50 _ ?_
      show Steps p.tables e below (T50.setTop (mkF m 154 #[.val (.int p0), .val (.long q1), .second, .val (.int p2), .val (.int p3), .val (.int (0 : Int32)), .val (.int (1 : Int32)), .val (.long dd), .second, .val (.long na), .second, .val (.long nb), .second, .val (.long j10), .second, .val (.double vv), .second, .val (.ref b16), .val (.double qh31), .second, .val (.int (1 : Int32)), .unset] [(.ref b50)])) _
      refine XS.dup X50.here hx rfl (hb hby at_154) rfl rfl ?_
      show Steps p.tables e below (T50.setTop (mkF m 155 #[.val (.int p0), .val (.long q1), .second, .val (.int p2), .val (.int p3), .val (.int (0 : Int32)), .val (.int (1 : Int32)), .val (.long dd), .second, .val (.long na), .second, .val (.long nb), .second, .val (.long j10), .second, .val (.double vv), .second, .val (.ref b16), .val (.double qh31), .second, .val (.int (1 : Int32)), .unset] [(.ref b50), (.ref b50)])) _
      refine XS.iconst X50.here hx rfl (hb hby at_155) ?_
      show Steps p.tables e below (T50.setTop (mkF m 156 #[.val (.int p0), .val (.long q1), .second, .val (.int p2), .val (.int p3), .val (.int (0 : Int32)), .val (.int (1 : Int32)), .val (.long dd), .second, .val (.long na), .second, .val (.long nb), .second, .val (.long j10), .second, .val (.double vv), .second, .val (.ref b16), .val (.double qh31), .second, .val (.int (1 : Int32)), .unset] [(.int (2 : Int32)), (.ref b50), (.ref b50)])) _
      refine st60.trans ?_
      show Steps p.tables e below (T60.setTop (mkF m 159 #[.val (.int p0), .val (.long q1), .second, .val (.int p2), .val (.int p3), .val (.int (0 : Int32)), .val (.int (1 : Int32)), .val (.long dd), .second, .val (.long na), .second, .val (.long nb), .second, .val (.long j10), .second, .val (.double vv), .second, .val (.ref b16), .val (.double qh31), .second, .val (.int (1 : Int32)), .unset] [(.ref b50)])) _
      refine XS.astore X60.here hx rfl (hb hby at_159) rfl rfl (l' := #[.val (.int p0), .val (.long q1), .second, .val (.int p2), .val (.int p3), .val (.int (0 : Int32)), .val (.int (1 : Int32)), .val (.long dd), .second, .val (.long na), .second, .val (.long nb), .second, .val (.long j10), .second, .val (.double vv), .second, .val (.ref b16), .val (.double qh31), .second, .val (.int (1 : Int32)), .val (.ref b50)]) rfl ?_
      show Steps p.tables e below (T60.setTop (mkF m 161 #[.val (.int p0), .val (.long q1), .second, .val (.int p2), .val (.int p3), .val (.int (0 : Int32)), .val (.int (1 : Int32)), .val (.long dd), .second, .val (.long na), .second, .val (.long nb), .second, .val (.long j10), .second, .val (.double vv), .second, .val (.ref b16), .val (.double qh31), .second, .val (.int (1 : Int32)), .val (.ref b50)] [])) _
      refine XS.aload X60.here hx rfl (hb hby at_161) rfl rfl ?_
      show Steps p.tables e below (T60.setTop (mkF m 163 #[.val (.int p0), .val (.long q1), .second, .val (.int p2), .val (.int p3), .val (.int (0 : Int32)), .val (.int (1 : Int32)), .val (.long dd), .second, .val (.long na), .second, .val (.long nb), .second, .val (.long j10), .second, .val (.double vv), .second, .val (.ref b16), .val (.double qh31), .second, .val (.int (1 : Int32)), .val (.ref b50)] [(.ref b50)])) _
      refine XS.dconst1 X60.here hx rfl (hb hby at_163) rfl ?_
      show Steps p.tables e below (T60.setTop (mkF m 164 #[.val (.int p0), .val (.long q1), .second, .val (.int p2), .val (.int p3), .val (.int (0 : Int32)), .val (.int (1 : Int32)), .val (.long dd), .second, .val (.long na), .second, .val (.long nb), .second, .val (.long j10), .second, .val (.double vv), .second, .val (.ref b16), .val (.double qh31), .second, .val (.int (1 : Int32)), .val (.ref b50)] [(.double FP.dconst1), (.ref b50)])) _
      refine st69.trans ?_
      show Steps p.tables e below (T69.setTop (mkF m 167 #[.val (.int p0), .val (.long q1), .second, .val (.int p2), .val (.int p3), .val (.int (0 : Int32)), .val (.int (1 : Int32)), .val (.long dd), .second, .val (.long na), .second, .val (.long nb), .second, .val (.long j10), .second, .val (.double vv), .second, .val (.ref b16), .val (.double qh31), .second, .val (.int (1 : Int32)), .val (.ref b50)] [])) _
      refine XS.aload X69.here hx rfl (hb hby at_167) rfl rfl ?_
      show Steps p.tables e below (T69.setTop (mkF m 169 #[.val (.int p0), .val (.long q1), .second, .val (.int p2), .val (.int p3), .val (.int (0 : Int32)), .val (.int (1 : Int32)), .val (.long dd), .second, .val (.long na), .second, .val (.long nb), .second, .val (.long j10), .second, .val (.double vv), .second, .val (.ref b16), .val (.double qh31), .second, .val (.int (1 : Int32)), .val (.ref b50)] [(.ref b50)])) _
      refine XS.aload X69.here hx rfl (hb hby at_169) rfl rfl ?_
      show Steps p.tables e below (T69.setTop (mkF m 171 #[.val (.int p0), .val (.long q1), .second, .val (.int p2), .val (.int p3), .val (.int (0 : Int32)), .val (.int (1 : Int32)), .val (.long dd), .second, .val (.long na), .second, .val (.long nb), .second, .val (.long j10), .second, .val (.double vv), .second, .val (.ref b16), .val (.double qh31), .second, .val (.int (1 : Int32)), .val (.ref b50)] [(.ref b16), (.ref b50)])) _
      refine st80.trans ?_
      show Steps p.tables e below (T80.setTop (mkF m 174 #[.val (.int p0), .val (.long q1), .second, .val (.int p2), .val (.int p3), .val (.int (0 : Int32)), .val (.int (1 : Int32)), .val (.long dd), .second, .val (.long na), .second, .val (.long nb), .second, .val (.long j10), .second, .val (.double vv), .second, .val (.ref b16), .val (.double qh31), .second, .val (.int (1 : Int32)), .val (.ref b50)] [])) _
      refine XS.iload X80.here hx rfl (hb hby at_174) rfl ?_
      exact kt
    obtain ⟨cq92, kq92, q92a, q92b, q92c⟩ := isOf hZ rfl fa86
    obtain ⟨_, _, ⟨T92, L92, k92, n92⟩, -, X92, ⟨Lc92, hQ92, l92, y92, z92⟩, st92⟩ := X80.virtualBack hx (y := (⟨"com/example/degree/degree/retrieval/DoubleDoubles", "rounded", "(I)D"⟩ : MethodName)) (z := (⟨"com/example/degree/degree/retrieval/DoubleDoubles", "rounded", "(I)D"⟩ : MethodName)) hown (mvT hZ (hq hw 33 rfl)) (mvT hZ (hq hw 34 rfl)) (notFace_of_selects (args := #[]) (mvT hZ (hq hw 36 rfl))) (mvT hZ (hq hw 36 rfl)) (mvT hZ (hq hw 35 rfl)) (by decide) (backOf (W := 0) (rm_rounded_0 l Z a0 hw [] b50 ha60 la60 kh60 kl60 (own_ch FP.dconst1 FP.dconst0 vv FP.dconst0) (own_ch FP.dconst1 FP.dconst0 qh31 ql31) (own_cl FP.dconst1 FP.dconst0 vv FP.dconst0) (own_cl FP.dconst1 FP.dconst0 qh31 ql31) T80.heap n0 z89 fa86 fa87 fa88 Vh80 Vl80 g_ha60 g_la60 ne_ha60_la60 ne_b50_ha60 ne_b50_la60) hZ (hq hw 37 rfl) (hq hw 5 rfl) (by decide) (by decide)) q92a q92c (g := (mkF m 183 #[.val (.int p0), .val (.long q1), .second, .val (.int p2), .val (.int p3), .val (.int (0 : Int32)), .val (.int (1 : Int32)), .val (.long dd), .second, .val (.long na), .second, .val (.long nb), .second, .val (.long j10), .second, .val (.double vv), .second, .val (.ref b16), .val (.double qh31), .second, .val (.int (1 : Int32)), .val (.ref b50)] [(.int (0 : Int32)), (.ref b50)])) rfl (by rw [hml]; rfl) (Steps.refl _) (argsL := [(.int (0 : Int32))]) (rest := []) (lenOf pd_5 rfl) rfl (by show 2 * 0 + _ ≤ _; exact Nat.le_of_eq rfl) (hb hby at_183) (fun _ _ => ⟨rfl, rfl, (by decide : 6 + 0 ≤ _), (by decide : 12 + 0 ≤ _)⟩)
    dsimp only [Pt.U, Pt.locs, Pt.cells, Pt.slots] at X92 l92 y92 z92 st92 hQ92
    subst l92 y92 z92
    obtain ⟨rfl, N92q, eh92⟩ := hQ92
    have N92 := Fr.app N80 N92q
    have G93 : ∀ t, Steps p.tables e below (T92.setTop (mkF m 191 #[.val (.int p0), .val (.long q1), .second, .val (.int p2), .val (.int p3), .val (.int (0 : Int32)), .val (.int (1 : Int32)), .val (.long dd), .second, .val (.long na), .second, .val (.long nb), .second, .val (.long j10), .second, .val (.double vv), .second, .val (.ref b16), .val (.double qh31), .second, .val (.int (1 : Int32)), .val (.ref b50)] [(.int (cmpValue (FP.dcmp (own_ch FP.dconst1 FP.dconst0 vv FP.dconst0) (FP.dsub FP.dconst1 vv)) CmpOp.l))])) t → Steps p.tables e below (s₁.setTop (entryFrame m #[(.int p0), (.long q1), (.int p2), (.int p3)] maxLocals)) t := by
      intro t kt
      refine G91 _ ?_
      show Steps p.tables e below (T80.setTop (mkF m 176 #[.val (.int p0), .val (.long q1), .second, .val (.int p2), .val (.int p3), .val (.int (0 : Int32)), .val (.int (1 : Int32)), .val (.long dd), .second, .val (.long na), .second, .val (.long nb), .second, .val (.long j10), .second, .val (.double vv), .second, .val (.ref b16), .val (.double qh31), .second, .val (.int (1 : Int32)), .val (.ref b50)] [(.int (1 : Int32))])) _
      refine XS.ifNo X80.here hx rfl (hb hby at_176) rfl ((if0 _ _).trans (feq (by decide)).1) ?_
      show Steps p.tables e below (T80.setTop (mkF m 179 #[.val (.int p0), .val (.long q1), .second, .val (.int p2), .val (.int p3), .val (.int (0 : Int32)), .val (.int (1 : Int32)), .val (.long dd), .second, .val (.long na), .second, .val (.long nb), .second, .val (.long j10), .second, .val (.double vv), .second, .val (.ref b16), .val (.double qh31), .second, .val (.int (1 : Int32)), .val (.ref b50)] [])) _
      refine XS.aload X80.here hx rfl (hb hby at_179) rfl rfl ?_
      show Steps p.tables e below (T80.setTop (mkF m 181 #[.val (.int p0), .val (.long q1), .second, .val (.int p2), .val (.int p3), .val (.int (0 : Int32)), .val (.int (1 : Int32)), .val (.long dd), .second, .val (.long na), .second, .val (.long nb), .second, .val (.long j10), .second, .val (.double vv), .second, .val (.ref b16), .val (.double qh31), .second, .val (.int (1 : Int32)), .val (.ref b50)] [(.ref b50)])) _
      refine XS.iload X80.here hx rfl (hb hby at_181) rfl ?_
      show Steps p.tables e below (T80.setTop (mkF m 183 #[.val (.int p0), .val (.long q1), .second, .val (.int p2), .val (.int p3), .val (.int (0 : Int32)), .val (.int (1 : Int32)), .val (.long dd), .second, .val (.long na), .second, .val (.long nb), .second, .val (.long j10), .second, .val (.double vv), .second, .val (.ref b16), .val (.double qh31), .second, .val (.int (1 : Int32)), .val (.ref b50)] [(.int (0 : Int32)), (.ref b50)])) _
      refine st92.trans ?_
      show Steps p.tables e below (T92.setTop (mkF m 186 #[.val (.int p0), .val (.long q1), .second, .val (.int p2), .val (.int p3), .val (.int (0 : Int32)), .val (.int (1 : Int32)), .val (.long dd), .second, .val (.long na), .second, .val (.long nb), .second, .val (.long j10), .second, .val (.double vv), .second, .val (.ref b16), .val (.double qh31), .second, .val (.int (1 : Int32)), .val (.ref b50)] [(.double (own_ch FP.dconst1 FP.dconst0 vv FP.dconst0))])) _
      refine XS.dconst1 X92.here hx rfl (hb hby at_186) rfl ?_
      show Steps p.tables e below (T92.setTop (mkF m 187 #[.val (.int p0), .val (.long q1), .second, .val (.int p2), .val (.int p3), .val (.int (0 : Int32)), .val (.int (1 : Int32)), .val (.long dd), .second, .val (.long na), .second, .val (.long nb), .second, .val (.long j10), .second, .val (.double vv), .second, .val (.ref b16), .val (.double qh31), .second, .val (.int (1 : Int32)), .val (.ref b50)] [(.double FP.dconst1), (.double (own_ch FP.dconst1 FP.dconst0 vv FP.dconst0))])) _
      refine XS.dload X92.here hx rfl (hb hby at_187) rfl ?_
      show Steps p.tables e below (T92.setTop (mkF m 189 #[.val (.int p0), .val (.long q1), .second, .val (.int p2), .val (.int p3), .val (.int (0 : Int32)), .val (.int (1 : Int32)), .val (.long dd), .second, .val (.long na), .second, .val (.long nb), .second, .val (.long j10), .second, .val (.double vv), .second, .val (.ref b16), .val (.double qh31), .second, .val (.int (1 : Int32)), .val (.ref b50)] [(.double vv), (.double FP.dconst1), (.double (own_ch FP.dconst1 FP.dconst0 vv FP.dconst0))])) _
      refine XS.dsubS X92.here hx rfl (hb hby at_189) rfl (own_sv hmr hvv) rfl ?_
      show Steps p.tables e below (T92.setTop (mkF m 190 #[.val (.int p0), .val (.long q1), .second, .val (.int p2), .val (.int p3), .val (.int (0 : Int32)), .val (.int (1 : Int32)), .val (.long dd), .second, .val (.long na), .second, .val (.long nb), .second, .val (.long j10), .second, .val (.double vv), .second, .val (.ref b16), .val (.double qh31), .second, .val (.int (1 : Int32)), .val (.ref b50)] [(.double (FP.dsub FP.dconst1 vv)), (.double (own_ch FP.dconst1 FP.dconst0 vv FP.dconst0))])) _
      refine XS.dcmpS X92.here hx rfl (hb hby at_190) rfl rfl ?_
      exact kt
    have hc191_94 : (cmpValue (FP.dcmp (own_ch FP.dconst1 FP.dconst0 vv FP.dconst0) (FP.dsub FP.dconst1 vv)) CmpOp.l) = (0 : Int32) := own_last j10 hmr.1 hmr.2 vv hvv _
    obtain ⟨fs, hr, hrun, hended, hW, hsame⟩ := X92.leave (v := some (.int (1 : Int32))) (fun h => by rw [Bd.returns] at h; cases h)
    refine ⟨_, _, G93 _ ?_, hrun, hended, _, _, rfl, ?_, ⟨_, rfl⟩, hW, hsame.mono (by decide) (by decide)⟩
    · skip
      show Steps p.tables e below (T92.setTop (mkF m 191 #[.val (.int p0), .val (.long q1), .second, .val (.int p2), .val (.int p3), .val (.int (0 : Int32)), .val (.int (1 : Int32)), .val (.long dd), .second, .val (.long na), .second, .val (.long nb), .second, .val (.long j10), .second, .val (.double vv), .second, .val (.ref b16), .val (.double qh31), .second, .val (.int (1 : Int32)), .val (.ref b50)] [(.int (cmpValue (FP.dcmp (own_ch FP.dconst1 FP.dconst0 vv FP.dconst0) (FP.dsub FP.dconst1 vv)) CmpOp.l))])) _
      refine XS.ifNo X92.here hx rfl (hb hby at_191) rfl ((if0 _ _).trans (teq hc191_94).2) ?_
      show Steps p.tables e below (T92.setTop (mkF m 194 #[.val (.int p0), .val (.long q1), .second, .val (.int p2), .val (.int p3), .val (.int (0 : Int32)), .val (.int (1 : Int32)), .val (.long dd), .second, .val (.long na), .second, .val (.long nb), .second, .val (.long j10), .second, .val (.double vv), .second, .val (.ref b16), .val (.double qh31), .second, .val (.int (1 : Int32)), .val (.ref b50)] [])) _
      refine XS.iconst X92.here hx rfl (hb hby at_194) ?_
      show Steps p.tables e below (T92.setTop (mkF m 195 #[.val (.int p0), .val (.long q1), .second, .val (.int p2), .val (.int p3), .val (.int (0 : Int32)), .val (.int (1 : Int32)), .val (.long dd), .second, .val (.long na), .second, .val (.long nb), .second, .val (.long j10), .second, .val (.double vv), .second, .val (.ref b16), .val (.double qh31), .second, .val (.int (1 : Int32)), .val (.ref b50)] [(.int (1 : Int32))])) _
      refine XS.goto X92.here hx rfl (pc0 := 195) (pc' := 199) rfl (hb hby at_195) (by decide) (by decide) ?_
      show Steps p.tables e below (T92.setTop (mkF m 199 #[.val (.int p0), .val (.long q1), .second, .val (.int p2), .val (.int p3), .val (.int (0 : Int32)), .val (.int (1 : Int32)), .val (.long dd), .second, .val (.long na), .second, .val (.long nb), .second, .val (.long j10), .second, .val (.double vv), .second, .val (.ref b16), .val (.double qh31), .second, .val (.int (1 : Int32)), .val (.ref b50)] [(.int (1 : Int32))])) _
      exact retN X92 hx (t := .boolean) Bd.returns (by simp) (hb hby at_199) hr
    · show Q0 Z p0 q1 p2 p3 h0 n0 _ T92.heap _
      rw [eh92]
      exact ⟨rfl, N92⟩
  · skip
    have Gi95 := G1
    rw [hi] at Gi95
    have G96 : ∀ t, Steps p.tables e below (s₁.setTop (mkF m 23 #[.val (.int p0), .val (.long q1), .second, .val (.int p2), .val (.int p3), .val (.int (1 : Int32)), .val (.int (0 : Int32)), .val (.long (((((p2.toUInt32 >>> ((16 : Int32) &&& 31).toUInt32).toInt32) &&& (65535 : Int32)).toInt64) + (1 : Int64))), .second, .unset, .unset, .unset, .unset, .unset, .unset, .unset, .unset, .unset, .unset, .unset, .unset, .unset] [])) t → Steps p.tables e below (s₁.setTop (entryFrame m #[(.int p0), (.long q1), (.int p2), (.int p3)] maxLocals)) t := by
      intro t kt
      refine Gi95 _ ?_
      show Steps p.tables e below (s₁.setTop (mkF m 5 #[.val (.int p0), .val (.long q1), .second, .val (.int p2), .val (.int p3), .val (.int (1 : Int32)), .unset, .unset, .unset, .unset, .unset, .unset, .unset, .unset, .unset, .unset, .unset, .unset, .unset, .unset, .unset, .unset] [])) _
      refine XS.iconst X0.here hx rfl (hb hby at_5) ?_
      show Steps p.tables e below (s₁.setTop (mkF m 6 #[.val (.int p0), .val (.long q1), .second, .val (.int p2), .val (.int p3), .val (.int (1 : Int32)), .unset, .unset, .unset, .unset, .unset, .unset, .unset, .unset, .unset, .unset, .unset, .unset, .unset, .unset, .unset, .unset] [(.int (1 : Int32))])) _
      refine XS.iload X0.here hx rfl (hb hby at_6) rfl ?_
      show Steps p.tables e below (s₁.setTop (mkF m 8 #[.val (.int p0), .val (.long q1), .second, .val (.int p2), .val (.int p3), .val (.int (1 : Int32)), .unset, .unset, .unset, .unset, .unset, .unset, .unset, .unset, .unset, .unset, .unset, .unset, .unset, .unset, .unset, .unset] [(.int (1 : Int32)), (.int (1 : Int32))])) _
      refine XS.isub X0.here hx rfl (hb hby at_8) rfl ?_
      show Steps p.tables e below (s₁.setTop (mkF m 9 #[.val (.int p0), .val (.long q1), .second, .val (.int p2), .val (.int p3), .val (.int (1 : Int32)), .unset, .unset, .unset, .unset, .unset, .unset, .unset, .unset, .unset, .unset, .unset, .unset, .unset, .unset, .unset, .unset] [(.int (0 : Int32))])) _
      refine XS.istore X0.here hx rfl (hb hby at_9) rfl (l' := #[.val (.int p0), .val (.long q1), .second, .val (.int p2), .val (.int p3), .val (.int (1 : Int32)), .val (.int (0 : Int32)), .unset, .unset, .unset, .unset, .unset, .unset, .unset, .unset, .unset, .unset, .unset, .unset, .unset, .unset, .unset]) rfl ?_
      show Steps p.tables e below (s₁.setTop (mkF m 11 #[.val (.int p0), .val (.long q1), .second, .val (.int p2), .val (.int p3), .val (.int (1 : Int32)), .val (.int (0 : Int32)), .unset, .unset, .unset, .unset, .unset, .unset, .unset, .unset, .unset, .unset, .unset, .unset, .unset, .unset, .unset] [])) _
      refine XS.iloadN X0.here hx rfl (hb hby at_11) rfl ?_
      show Steps p.tables e below (s₁.setTop (mkF m 12 #[.val (.int p0), .val (.long q1), .second, .val (.int p2), .val (.int p3), .val (.int (1 : Int32)), .val (.int (0 : Int32)), .unset, .unset, .unset, .unset, .unset, .unset, .unset, .unset, .unset, .unset, .unset, .unset, .unset, .unset, .unset] [(.int p2)])) _
      refine XS.bipush X0.here hx rfl (hb hby at_12) ?_
      show Steps p.tables e below (s₁.setTop (mkF m 14 #[.val (.int p0), .val (.long q1), .second, .val (.int p2), .val (.int p3), .val (.int (1 : Int32)), .val (.int (0 : Int32)), .unset, .unset, .unset, .unset, .unset, .unset, .unset, .unset, .unset, .unset, .unset, .unset, .unset, .unset, .unset] [(.int (16 : Int32)), (.int p2)])) _
      refine XS.iushr X0.here hx rfl (hb hby at_14) rfl ?_
      show Steps p.tables e below (s₁.setTop (mkF m 15 #[.val (.int p0), .val (.long q1), .second, .val (.int p2), .val (.int p3), .val (.int (1 : Int32)), .val (.int (0 : Int32)), .unset, .unset, .unset, .unset, .unset, .unset, .unset, .unset, .unset, .unset, .unset, .unset, .unset, .unset, .unset] [(.int ((p2.toUInt32 >>> ((16 : Int32) &&& 31).toUInt32).toInt32))])) _
      refine X0.ldcInt hx hown (mvT hZ (hq hw 0 rfl)) (g := (mkF m 15 #[.val (.int p0), .val (.long q1), .second, .val (.int p2), .val (.int p3), .val (.int (1 : Int32)), .val (.int (0 : Int32)), .unset, .unset, .unset, .unset, .unset, .unset, .unset, .unset, .unset, .unset, .unset, .unset, .unset, .unset, .unset] [(.int ((p2.toUInt32 >>> ((16 : Int32) &&& 31).toUInt32).toInt32))])) rfl (hb hby at_15) _ ?_
      show Steps p.tables e below (s₁.setTop (mkF m 17 #[.val (.int p0), .val (.long q1), .second, .val (.int p2), .val (.int p3), .val (.int (1 : Int32)), .val (.int (0 : Int32)), .unset, .unset, .unset, .unset, .unset, .unset, .unset, .unset, .unset, .unset, .unset, .unset, .unset, .unset, .unset] [(.int (65535 : Int32)), (.int ((p2.toUInt32 >>> ((16 : Int32) &&& 31).toUInt32).toInt32))])) _
      refine XS.iand X0.here hx rfl (hb hby at_17) rfl ?_
      show Steps p.tables e below (s₁.setTop (mkF m 18 #[.val (.int p0), .val (.long q1), .second, .val (.int p2), .val (.int p3), .val (.int (1 : Int32)), .val (.int (0 : Int32)), .unset, .unset, .unset, .unset, .unset, .unset, .unset, .unset, .unset, .unset, .unset, .unset, .unset, .unset, .unset] [(.int (((p2.toUInt32 >>> ((16 : Int32) &&& 31).toUInt32).toInt32) &&& (65535 : Int32)))])) _
      refine XS.i2l X0.here hx rfl (hb hby at_18) rfl ?_
      show Steps p.tables e below (s₁.setTop (mkF m 19 #[.val (.int p0), .val (.long q1), .second, .val (.int p2), .val (.int p3), .val (.int (1 : Int32)), .val (.int (0 : Int32)), .unset, .unset, .unset, .unset, .unset, .unset, .unset, .unset, .unset, .unset, .unset, .unset, .unset, .unset, .unset] [(.long ((((p2.toUInt32 >>> ((16 : Int32) &&& 31).toUInt32).toInt32) &&& (65535 : Int32)).toInt64))])) _
      refine XS.lconst X0.here hx rfl (hb hby at_19) ?_
      show Steps p.tables e below (s₁.setTop (mkF m 20 #[.val (.int p0), .val (.long q1), .second, .val (.int p2), .val (.int p3), .val (.int (1 : Int32)), .val (.int (0 : Int32)), .unset, .unset, .unset, .unset, .unset, .unset, .unset, .unset, .unset, .unset, .unset, .unset, .unset, .unset, .unset] [(.long (1 : Int64)), (.long ((((p2.toUInt32 >>> ((16 : Int32) &&& 31).toUInt32).toInt32) &&& (65535 : Int32)).toInt64))])) _
      refine XS.ladd X0.here hx rfl (hb hby at_20) rfl ?_
      show Steps p.tables e below (s₁.setTop (mkF m 21 #[.val (.int p0), .val (.long q1), .second, .val (.int p2), .val (.int p3), .val (.int (1 : Int32)), .val (.int (0 : Int32)), .unset, .unset, .unset, .unset, .unset, .unset, .unset, .unset, .unset, .unset, .unset, .unset, .unset, .unset, .unset] [(.long (((((p2.toUInt32 >>> ((16 : Int32) &&& 31).toUInt32).toInt32) &&& (65535 : Int32)).toInt64) + (1 : Int64)))])) _
      refine XS.lstore X0.here hx rfl (hb hby at_21) rfl (l' := #[.val (.int p0), .val (.long q1), .second, .val (.int p2), .val (.int p3), .val (.int (1 : Int32)), .val (.int (0 : Int32)), .val (.long (((((p2.toUInt32 >>> ((16 : Int32) &&& 31).toUInt32).toInt32) &&& (65535 : Int32)).toInt64) + (1 : Int64))), .second, .unset, .unset, .unset, .unset, .unset, .unset, .unset, .unset, .unset, .unset, .unset, .unset, .unset]) rfl ?_
      exact kt
    obtain ⟨dd, hdd⟩ : ∃ z : Int64, z = (((((p2.toUInt32 >>> ((16 : Int32) &&& 31).toUInt32).toInt32) &&& (65535 : Int32)).toInt64) + (1 : Int64)) := ⟨_, rfl⟩
    have G97 : ∀ t, Steps p.tables e below (s₁.setTop (mkF m 23 #[.val (.int p0), .val (.long q1), .second, .val (.int p2), .val (.int p3), .val (.int (1 : Int32)), .val (.int (0 : Int32)), .val (.long dd), .second, .unset, .unset, .unset, .unset, .unset, .unset, .unset, .unset, .unset, .unset, .unset, .unset, .unset] [])) t → Steps p.tables e below (s₁.setTop (entryFrame m #[(.int p0), (.long q1), (.int p2), (.int p3)] maxLocals)) t := by
      intro t kt
      rw [hdd] at kt
      exact G96 t kt
    have hdr := own_dr hdd
    have G98 : ∀ t, Steps p.tables e below (s₁.setTop (mkF m 33 #[.val (.int p0), .val (.long q1), .second, .val (.int p2), .val (.int p3), .val (.int (1 : Int32)), .val (.int (0 : Int32)), .val (.long dd), .second, .val (.long (((p2 &&& (65535 : Int32)).toInt64) - (((p2 &&& (65535 : Int32)).toInt64) / dd) * dd)), .second, .unset, .unset, .unset, .unset, .unset, .unset, .unset, .unset, .unset, .unset, .unset] [])) t → Steps p.tables e below (s₁.setTop (entryFrame m #[(.int p0), (.long q1), (.int p2), (.int p3)] maxLocals)) t := by
      intro t kt
      refine G97 _ ?_
      show Steps p.tables e below (s₁.setTop (mkF m 23 #[.val (.int p0), .val (.long q1), .second, .val (.int p2), .val (.int p3), .val (.int (1 : Int32)), .val (.int (0 : Int32)), .val (.long dd), .second, .unset, .unset, .unset, .unset, .unset, .unset, .unset, .unset, .unset, .unset, .unset, .unset, .unset] [])) _
      refine XS.iloadN X0.here hx rfl (hb hby at_23) rfl ?_
      show Steps p.tables e below (s₁.setTop (mkF m 24 #[.val (.int p0), .val (.long q1), .second, .val (.int p2), .val (.int p3), .val (.int (1 : Int32)), .val (.int (0 : Int32)), .val (.long dd), .second, .unset, .unset, .unset, .unset, .unset, .unset, .unset, .unset, .unset, .unset, .unset, .unset, .unset] [(.int p2)])) _
      refine X0.ldcInt hx hown (mvT hZ (hq hw 0 rfl)) (g := (mkF m 24 #[.val (.int p0), .val (.long q1), .second, .val (.int p2), .val (.int p3), .val (.int (1 : Int32)), .val (.int (0 : Int32)), .val (.long dd), .second, .unset, .unset, .unset, .unset, .unset, .unset, .unset, .unset, .unset, .unset, .unset, .unset, .unset] [(.int p2)])) rfl (hb hby at_24) _ ?_
      show Steps p.tables e below (s₁.setTop (mkF m 26 #[.val (.int p0), .val (.long q1), .second, .val (.int p2), .val (.int p3), .val (.int (1 : Int32)), .val (.int (0 : Int32)), .val (.long dd), .second, .unset, .unset, .unset, .unset, .unset, .unset, .unset, .unset, .unset, .unset, .unset, .unset, .unset] [(.int (65535 : Int32)), (.int p2)])) _
      refine XS.iand X0.here hx rfl (hb hby at_26) rfl ?_
      show Steps p.tables e below (s₁.setTop (mkF m 27 #[.val (.int p0), .val (.long q1), .second, .val (.int p2), .val (.int p3), .val (.int (1 : Int32)), .val (.int (0 : Int32)), .val (.long dd), .second, .unset, .unset, .unset, .unset, .unset, .unset, .unset, .unset, .unset, .unset, .unset, .unset, .unset] [(.int (p2 &&& (65535 : Int32)))])) _
      refine XS.i2l X0.here hx rfl (hb hby at_27) rfl ?_
      show Steps p.tables e below (s₁.setTop (mkF m 28 #[.val (.int p0), .val (.long q1), .second, .val (.int p2), .val (.int p3), .val (.int (1 : Int32)), .val (.int (0 : Int32)), .val (.long dd), .second, .unset, .unset, .unset, .unset, .unset, .unset, .unset, .unset, .unset, .unset, .unset, .unset, .unset] [(.long ((p2 &&& (65535 : Int32)).toInt64))])) _
      refine XS.lload X0.here hx rfl (hb hby at_28) rfl ?_
      show Steps p.tables e below (s₁.setTop (mkF m 30 #[.val (.int p0), .val (.long q1), .second, .val (.int p2), .val (.int p3), .val (.int (1 : Int32)), .val (.int (0 : Int32)), .val (.long dd), .second, .unset, .unset, .unset, .unset, .unset, .unset, .unset, .unset, .unset, .unset, .unset, .unset, .unset] [(.long dd), (.long ((p2 &&& (65535 : Int32)).toInt64))])) _
      refine XS.lrem X0.here hx rfl (hb hby at_30) rfl (own_nz hdr) ?_
      show Steps p.tables e below (s₁.setTop (mkF m 31 #[.val (.int p0), .val (.long q1), .second, .val (.int p2), .val (.int p3), .val (.int (1 : Int32)), .val (.int (0 : Int32)), .val (.long dd), .second, .unset, .unset, .unset, .unset, .unset, .unset, .unset, .unset, .unset, .unset, .unset, .unset, .unset] [(.long (((p2 &&& (65535 : Int32)).toInt64) - (((p2 &&& (65535 : Int32)).toInt64) / dd) * dd))])) _
      refine XS.lstore X0.here hx rfl (hb hby at_31) rfl (l' := #[.val (.int p0), .val (.long q1), .second, .val (.int p2), .val (.int p3), .val (.int (1 : Int32)), .val (.int (0 : Int32)), .val (.long dd), .second, .val (.long (((p2 &&& (65535 : Int32)).toInt64) - (((p2 &&& (65535 : Int32)).toInt64) / dd) * dd)), .second, .unset, .unset, .unset, .unset, .unset, .unset, .unset, .unset, .unset, .unset, .unset]) rfl ?_
      exact kt
    obtain ⟨na, hna⟩ : ∃ z : Int64, z = (((p2 &&& (65535 : Int32)).toInt64) - (((p2 &&& (65535 : Int32)).toInt64) / dd) * dd) := ⟨_, rfl⟩
    have G99 : ∀ t, Steps p.tables e below (s₁.setTop (mkF m 33 #[.val (.int p0), .val (.long q1), .second, .val (.int p2), .val (.int p3), .val (.int (1 : Int32)), .val (.int (0 : Int32)), .val (.long dd), .second, .val (.long na), .second, .unset, .unset, .unset, .unset, .unset, .unset, .unset, .unset, .unset, .unset, .unset] [])) t → Steps p.tables e below (s₁.setTop (entryFrame m #[(.int p0), (.long q1), (.int p2), (.int p3)] maxLocals)) t := by
      intro t kt
      rw [hna] at kt
      exact G98 t kt
    have hnr := own_nr hdr hna
    have G100 : ∀ t, Steps p.tables e below (s₁.setTop (mkF m 40 #[.val (.int p0), .val (.long q1), .second, .val (.int p2), .val (.int p3), .val (.int (1 : Int32)), .val (.int (0 : Int32)), .val (.long dd), .second, .val (.long na), .second, .val (.long (dd - na)), .second, .unset, .unset, .unset, .unset, .unset, .unset, .unset, .unset, .unset] [])) t → Steps p.tables e below (s₁.setTop (entryFrame m #[(.int p0), (.long q1), (.int p2), (.int p3)] maxLocals)) t := by
      intro t kt
      refine G99 _ ?_
      show Steps p.tables e below (s₁.setTop (mkF m 33 #[.val (.int p0), .val (.long q1), .second, .val (.int p2), .val (.int p3), .val (.int (1 : Int32)), .val (.int (0 : Int32)), .val (.long dd), .second, .val (.long na), .second, .unset, .unset, .unset, .unset, .unset, .unset, .unset, .unset, .unset, .unset, .unset] [])) _
      refine XS.lload X0.here hx rfl (hb hby at_33) rfl ?_
      show Steps p.tables e below (s₁.setTop (mkF m 35 #[.val (.int p0), .val (.long q1), .second, .val (.int p2), .val (.int p3), .val (.int (1 : Int32)), .val (.int (0 : Int32)), .val (.long dd), .second, .val (.long na), .second, .unset, .unset, .unset, .unset, .unset, .unset, .unset, .unset, .unset, .unset, .unset] [(.long dd)])) _
      refine XS.lload X0.here hx rfl (hb hby at_35) rfl ?_
      show Steps p.tables e below (s₁.setTop (mkF m 37 #[.val (.int p0), .val (.long q1), .second, .val (.int p2), .val (.int p3), .val (.int (1 : Int32)), .val (.int (0 : Int32)), .val (.long dd), .second, .val (.long na), .second, .unset, .unset, .unset, .unset, .unset, .unset, .unset, .unset, .unset, .unset, .unset] [(.long na), (.long dd)])) _
      refine XS.lsub X0.here hx rfl (hb hby at_37) rfl ?_
      show Steps p.tables e below (s₁.setTop (mkF m 38 #[.val (.int p0), .val (.long q1), .second, .val (.int p2), .val (.int p3), .val (.int (1 : Int32)), .val (.int (0 : Int32)), .val (.long dd), .second, .val (.long na), .second, .unset, .unset, .unset, .unset, .unset, .unset, .unset, .unset, .unset, .unset, .unset] [(.long (dd - na))])) _
      refine XS.lstore X0.here hx rfl (hb hby at_38) rfl (l' := #[.val (.int p0), .val (.long q1), .second, .val (.int p2), .val (.int p3), .val (.int (1 : Int32)), .val (.int (0 : Int32)), .val (.long dd), .second, .val (.long na), .second, .val (.long (dd - na)), .second, .unset, .unset, .unset, .unset, .unset, .unset, .unset, .unset, .unset]) rfl ?_
      exact kt
    obtain ⟨nb, hnb⟩ : ∃ z : Int64, z = (dd - na) := ⟨_, rfl⟩
    have G101 : ∀ t, Steps p.tables e below (s₁.setTop (mkF m 40 #[.val (.int p0), .val (.long q1), .second, .val (.int p2), .val (.int p3), .val (.int (1 : Int32)), .val (.int (0 : Int32)), .val (.long dd), .second, .val (.long na), .second, .val (.long nb), .second, .unset, .unset, .unset, .unset, .unset, .unset, .unset, .unset, .unset] [])) t → Steps p.tables e below (s₁.setTop (entryFrame m #[(.int p0), (.long q1), (.int p2), (.int p3)] maxLocals)) t := by
      intro t kt
      rw [hnb] at kt
      exact G100 t kt
    have hbr := own_br hdr hnr hnb
    have G102 : ∀ t, Steps p.tables e below (s₁.setTop (mkF m 47 #[.val (.int p0), .val (.long q1), .second, .val (.int p2), .val (.int p3), .val (.int (1 : Int32)), .val (.int (0 : Int32)), .val (.long dd), .second, .val (.long na), .second, .val (.long nb), .second, .val (.long (q1 &&& (9007199254740991 : Int64))), .second, .unset, .unset, .unset, .unset, .unset, .unset, .unset] [])) t → Steps p.tables e below (s₁.setTop (entryFrame m #[(.int p0), (.long q1), (.int p2), (.int p3)] maxLocals)) t := by
      intro t kt
      refine G101 _ ?_
      show Steps p.tables e below (s₁.setTop (mkF m 40 #[.val (.int p0), .val (.long q1), .second, .val (.int p2), .val (.int p3), .val (.int (1 : Int32)), .val (.int (0 : Int32)), .val (.long dd), .second, .val (.long na), .second, .val (.long nb), .second, .unset, .unset, .unset, .unset, .unset, .unset, .unset, .unset, .unset] [])) _
      refine XS.lloadN X0.here hx rfl (hb hby at_40) rfl ?_
      show Steps p.tables e below (s₁.setTop (mkF m 41 #[.val (.int p0), .val (.long q1), .second, .val (.int p2), .val (.int p3), .val (.int (1 : Int32)), .val (.int (0 : Int32)), .val (.long dd), .second, .val (.long na), .second, .val (.long nb), .second, .unset, .unset, .unset, .unset, .unset, .unset, .unset, .unset, .unset] [(.long q1)])) _
      refine X0.ldc2Long hx hown (mvT hZ (hq hw 1 rfl)) (g := (mkF m 41 #[.val (.int p0), .val (.long q1), .second, .val (.int p2), .val (.int p3), .val (.int (1 : Int32)), .val (.int (0 : Int32)), .val (.long dd), .second, .val (.long na), .second, .val (.long nb), .second, .unset, .unset, .unset, .unset, .unset, .unset, .unset, .unset, .unset] [(.long q1)])) rfl (hb hby at_41) _ ?_
      show Steps p.tables e below (s₁.setTop (mkF m 44 #[.val (.int p0), .val (.long q1), .second, .val (.int p2), .val (.int p3), .val (.int (1 : Int32)), .val (.int (0 : Int32)), .val (.long dd), .second, .val (.long na), .second, .val (.long nb), .second, .unset, .unset, .unset, .unset, .unset, .unset, .unset, .unset, .unset] [(.long (9007199254740991 : Int64)), (.long q1)])) _
      refine XS.land X0.here hx rfl (hb hby at_44) rfl ?_
      show Steps p.tables e below (s₁.setTop (mkF m 45 #[.val (.int p0), .val (.long q1), .second, .val (.int p2), .val (.int p3), .val (.int (1 : Int32)), .val (.int (0 : Int32)), .val (.long dd), .second, .val (.long na), .second, .val (.long nb), .second, .unset, .unset, .unset, .unset, .unset, .unset, .unset, .unset, .unset] [(.long (q1 &&& (9007199254740991 : Int64)))])) _
      refine XS.lstore X0.here hx rfl (hb hby at_45) rfl (l' := #[.val (.int p0), .val (.long q1), .second, .val (.int p2), .val (.int p3), .val (.int (1 : Int32)), .val (.int (0 : Int32)), .val (.long dd), .second, .val (.long na), .second, .val (.long nb), .second, .val (.long (q1 &&& (9007199254740991 : Int64))), .second, .unset, .unset, .unset, .unset, .unset, .unset, .unset]) rfl ?_
      exact kt
    obtain ⟨j103, hj103⟩ : ∃ z : Int64, z = (if (p3 &&& (1 : Int32)) = (0 : Int32) then (q1 &&& (9007199254740991 : Int64)) else (9007199254740992 : Int64)) := ⟨_, rfl⟩
    have G104 : ∀ t, Steps p.tables e below (s₁.setTop (mkF m 59 #[.val (.int p0), .val (.long q1), .second, .val (.int p2), .val (.int p3), .val (.int (1 : Int32)), .val (.int (0 : Int32)), .val (.long dd), .second, .val (.long na), .second, .val (.long nb), .second, .val (.long j103), .second, .unset, .unset, .unset, .unset, .unset, .unset, .unset] [])) t → Steps p.tables e below (s₁.setTop (entryFrame m #[(.int p0), (.long q1), (.int p2), (.int p3)] maxLocals)) t := by
      intro t kt
      have G105 : ∀ t, Steps p.tables e below (s₁.setTop (mkF m 51 #[.val (.int p0), .val (.long q1), .second, .val (.int p2), .val (.int p3), .val (.int (1 : Int32)), .val (.int (0 : Int32)), .val (.long dd), .second, .val (.long na), .second, .val (.long nb), .second, .val (.long (q1 &&& (9007199254740991 : Int64))), .second, .unset, .unset, .unset, .unset, .unset, .unset, .unset] [(.int (p3 &&& (1 : Int32)))])) t → Steps p.tables e below (s₁.setTop (entryFrame m #[(.int p0), (.long q1), (.int p2), (.int p3)] maxLocals)) t := by
        intro t kt
        refine G102 _ ?_
        show Steps p.tables e below (s₁.setTop (mkF m 47 #[.val (.int p0), .val (.long q1), .second, .val (.int p2), .val (.int p3), .val (.int (1 : Int32)), .val (.int (0 : Int32)), .val (.long dd), .second, .val (.long na), .second, .val (.long nb), .second, .val (.long (q1 &&& (9007199254740991 : Int64))), .second, .unset, .unset, .unset, .unset, .unset, .unset, .unset] [])) _
        refine XS.iload X0.here hx rfl (hb hby at_47) rfl ?_
        show Steps p.tables e below (s₁.setTop (mkF m 49 #[.val (.int p0), .val (.long q1), .second, .val (.int p2), .val (.int p3), .val (.int (1 : Int32)), .val (.int (0 : Int32)), .val (.long dd), .second, .val (.long na), .second, .val (.long nb), .second, .val (.long (q1 &&& (9007199254740991 : Int64))), .second, .unset, .unset, .unset, .unset, .unset, .unset, .unset] [(.int p3)])) _
        refine XS.iconst X0.here hx rfl (hb hby at_49) ?_
        show Steps p.tables e below (s₁.setTop (mkF m 50 #[.val (.int p0), .val (.long q1), .second, .val (.int p2), .val (.int p3), .val (.int (1 : Int32)), .val (.int (0 : Int32)), .val (.long dd), .second, .val (.long na), .second, .val (.long nb), .second, .val (.long (q1 &&& (9007199254740991 : Int64))), .second, .unset, .unset, .unset, .unset, .unset, .unset, .unset] [(.int (1 : Int32)), (.int p3)])) _
        refine XS.iand X0.here hx rfl (hb hby at_50) rfl ?_
        exact kt
      by_cases hc51_106 : (p3 &&& (1 : Int32)) = (0 : Int32)
      · skip
        rw [show j103 = (q1 &&& (9007199254740991 : Int64)) from by rw [hj103, if_pos hc51_106]] at kt
        refine G105 _ ?_
        show Steps p.tables e below (s₁.setTop (mkF m 51 #[.val (.int p0), .val (.long q1), .second, .val (.int p2), .val (.int p3), .val (.int (1 : Int32)), .val (.int (0 : Int32)), .val (.long dd), .second, .val (.long na), .second, .val (.long nb), .second, .val (.long (q1 &&& (9007199254740991 : Int64))), .second, .unset, .unset, .unset, .unset, .unset, .unset, .unset] [(.int (p3 &&& (1 : Int32)))])) _
        refine XS.ifYes X0.here hx rfl (pc0 := 51) (pc' := 59) rfl (hb hby at_51) rfl ((if0 _ _).trans (teq hc51_106).1) (by decide) (by decide) ?_
        exact kt
      · skip
        rw [show j103 = (9007199254740992 : Int64) from by rw [hj103, if_neg hc51_106]] at kt
        refine G105 _ ?_
        show Steps p.tables e below (s₁.setTop (mkF m 51 #[.val (.int p0), .val (.long q1), .second, .val (.int p2), .val (.int p3), .val (.int (1 : Int32)), .val (.int (0 : Int32)), .val (.long dd), .second, .val (.long na), .second, .val (.long nb), .second, .val (.long (q1 &&& (9007199254740991 : Int64))), .second, .unset, .unset, .unset, .unset, .unset, .unset, .unset] [(.int (p3 &&& (1 : Int32)))])) _
        refine XS.ifNo X0.here hx rfl (hb hby at_51) rfl ((if0 _ _).trans (feq hc51_106).1) ?_
        show Steps p.tables e below (s₁.setTop (mkF m 54 #[.val (.int p0), .val (.long q1), .second, .val (.int p2), .val (.int p3), .val (.int (1 : Int32)), .val (.int (0 : Int32)), .val (.long dd), .second, .val (.long na), .second, .val (.long nb), .second, .val (.long (q1 &&& (9007199254740991 : Int64))), .second, .unset, .unset, .unset, .unset, .unset, .unset, .unset] [])) _
        refine X0.ldc2Long hx hown (mvT hZ (hq hw 65 rfl)) (g := (mkF m 54 #[.val (.int p0), .val (.long q1), .second, .val (.int p2), .val (.int p3), .val (.int (1 : Int32)), .val (.int (0 : Int32)), .val (.long dd), .second, .val (.long na), .second, .val (.long nb), .second, .val (.long (q1 &&& (9007199254740991 : Int64))), .second, .unset, .unset, .unset, .unset, .unset, .unset, .unset] [])) rfl (hb hby at_54) _ ?_
        show Steps p.tables e below (s₁.setTop (mkF m 57 #[.val (.int p0), .val (.long q1), .second, .val (.int p2), .val (.int p3), .val (.int (1 : Int32)), .val (.int (0 : Int32)), .val (.long dd), .second, .val (.long na), .second, .val (.long nb), .second, .val (.long (q1 &&& (9007199254740991 : Int64))), .second, .unset, .unset, .unset, .unset, .unset, .unset, .unset] [(.long (9007199254740992 : Int64))])) _
        refine XS.lstore X0.here hx rfl (hb hby at_57) rfl (l' := #[.val (.int p0), .val (.long q1), .second, .val (.int p2), .val (.int p3), .val (.int (1 : Int32)), .val (.int (0 : Int32)), .val (.long dd), .second, .val (.long na), .second, .val (.long nb), .second, .val (.long (9007199254740992 : Int64)), .second, .unset, .unset, .unset, .unset, .unset, .unset, .unset]) rfl ?_
        exact kt
    have hmr := own_mr hj103
    have G107 : ∀ t, Steps p.tables e below (s₁.setTop (mkF m 68 #[.val (.int p0), .val (.long q1), .second, .val (.int p2), .val (.int p3), .val (.int (1 : Int32)), .val (.int (0 : Int32)), .val (.long dd), .second, .val (.long na), .second, .val (.long nb), .second, .val (.long j103), .second, .val (.double (FP.ddiv (FP.l2d j103) 4845873199050653696)), .second, .unset, .unset, .unset, .unset, .unset] [])) t → Steps p.tables e below (s₁.setTop (entryFrame m #[(.int p0), (.long q1), (.int p2), (.int p3)] maxLocals)) t := by
      intro t kt
      refine G104 _ ?_
      show Steps p.tables e below (s₁.setTop (mkF m 59 #[.val (.int p0), .val (.long q1), .second, .val (.int p2), .val (.int p3), .val (.int (1 : Int32)), .val (.int (0 : Int32)), .val (.long dd), .second, .val (.long na), .second, .val (.long nb), .second, .val (.long j103), .second, .unset, .unset, .unset, .unset, .unset, .unset, .unset] [])) _
      refine XS.lload X0.here hx rfl (hb hby at_59) rfl ?_
      show Steps p.tables e below (s₁.setTop (mkF m 61 #[.val (.int p0), .val (.long q1), .second, .val (.int p2), .val (.int p3), .val (.int (1 : Int32)), .val (.int (0 : Int32)), .val (.long dd), .second, .val (.long na), .second, .val (.long nb), .second, .val (.long j103), .second, .unset, .unset, .unset, .unset, .unset, .unset, .unset] [(.long j103)])) _
      refine XS.l2dS X0.here hx rfl (hb hby at_61) rfl rfl ?_
      show Steps p.tables e below (s₁.setTop (mkF m 62 #[.val (.int p0), .val (.long q1), .second, .val (.int p2), .val (.int p3), .val (.int (1 : Int32)), .val (.int (0 : Int32)), .val (.long dd), .second, .val (.long na), .second, .val (.long nb), .second, .val (.long j103), .second, .unset, .unset, .unset, .unset, .unset, .unset, .unset] [(.double (FP.l2d j103))])) _
      refine X0.ldc2DoubleC hx hown (mvT hZ (hq hw 2 rfl)) (g := (mkF m 62 #[.val (.int p0), .val (.long q1), .second, .val (.int p2), .val (.int p3), .val (.int (1 : Int32)), .val (.int (0 : Int32)), .val (.long dd), .second, .val (.long na), .second, .val (.long nb), .second, .val (.long j103), .second, .unset, .unset, .unset, .unset, .unset, .unset, .unset] [(.double (FP.l2d j103))])) rfl (hb hby at_62) _ ?_
      show Steps p.tables e below (s₁.setTop (mkF m 65 #[.val (.int p0), .val (.long q1), .second, .val (.int p2), .val (.int p3), .val (.int (1 : Int32)), .val (.int (0 : Int32)), .val (.long dd), .second, .val (.long na), .second, .val (.long nb), .second, .val (.long j103), .second, .unset, .unset, .unset, .unset, .unset, .unset, .unset] [(.double 4845873199050653696), (.double (FP.l2d j103))])) _
      refine XS.ddivS X0.here hx rfl (hb hby at_65) rfl (own_nn (own_vm j103 hmr.1 hmr.2)) rfl ?_
      show Steps p.tables e below (s₁.setTop (mkF m 66 #[.val (.int p0), .val (.long q1), .second, .val (.int p2), .val (.int p3), .val (.int (1 : Int32)), .val (.int (0 : Int32)), .val (.long dd), .second, .val (.long na), .second, .val (.long nb), .second, .val (.long j103), .second, .unset, .unset, .unset, .unset, .unset, .unset, .unset] [(.double (FP.ddiv (FP.l2d j103) 4845873199050653696))])) _
      refine XS.dstore X0.here hx rfl (hb hby at_66) rfl (l' := #[.val (.int p0), .val (.long q1), .second, .val (.int p2), .val (.int p3), .val (.int (1 : Int32)), .val (.int (0 : Int32)), .val (.long dd), .second, .val (.long na), .second, .val (.long nb), .second, .val (.long j103), .second, .val (.double (FP.ddiv (FP.l2d j103) 4845873199050653696)), .second, .unset, .unset, .unset, .unset, .unset]) rfl ?_
      exact kt
    obtain ⟨vv, hvv⟩ : ∃ z : UInt64, z = (FP.ddiv (FP.l2d j103) 4845873199050653696) := ⟨_, rfl⟩
    have G108 : ∀ t, Steps p.tables e below (s₁.setTop (mkF m 68 #[.val (.int p0), .val (.long q1), .second, .val (.int p2), .val (.int p3), .val (.int (1 : Int32)), .val (.int (0 : Int32)), .val (.long dd), .second, .val (.long na), .second, .val (.long nb), .second, .val (.long j103), .second, .val (.double vv), .second, .unset, .unset, .unset, .unset, .unset] [])) t → Steps p.tables e below (s₁.setTop (entryFrame m #[(.int p0), (.long q1), (.int p2), (.int p3)] maxLocals)) t := by
      intro t kt
      rw [hvv] at kt
      exact G107 t kt
    obtain ⟨T109, h109, X109, e109, E109, A109, D109, -, st109⟩ := newO X0 hx hZ hown (hq hw 3 rfl) (hq hw 4 rfl) (hq hw 5 rfl) e0 (g := (mkF m 68 #[.val (.int p0), .val (.long q1), .second, .val (.int p2), .val (.int p3), .val (.int (1 : Int32)), .val (.int (0 : Int32)), .val (.long dd), .second, .val (.long na), .second, .val (.long nb), .second, .val (.long j103), .second, .val (.double vv), .second, .unset, .unset, .unset, .unset, .unset] [])) rfl (hb hby at_68) (by decide) (by decide)
    obtain ⟨b109, g109⟩ : ∃ z, z = h0.size := ⟨_, rfl⟩
    rw [← g109] at A109 D109 st109
    have g_b109 : n0 ≤ b109 := Nat.le_trans Z0 (Nat.le_of_eq g109.symm)
    have sz_b109 : h0.size ≤ b109 := Nat.le_trans kp0.1 (Nat.le_of_eq g109.symm)
    have z110 : n0 ≤ h109.size := Nat.le_trans Z0 E109.1
    have kp111 : Keep h0 h109 [] := kp0.ext E109
    have fa112 : Fld Z h109 b109 "com/example/degree/degree/retrieval/DoubleDoubles" "high" "[D" .null := D109 (Or.inr (hq hw 14 rfl)) (ty := (.array .double)) (by decide)
    have fa113 : Fld Z h109 b109 "com/example/degree/degree/retrieval/DoubleDoubles" "low" "[D" .null := D109 (Or.inr (hq hw 16 rfl)) (ty := (.array .double)) (by decide)
    obtain ⟨_, _, ⟨T114, L114, k114, n114⟩, -, X114, ⟨Lc114, hQ114, l114, y114, z114⟩, st114⟩ := X109.specialBack hx (y := (⟨"com/example/degree/degree/retrieval/DoubleDoubles", "<init>", "(I)V"⟩ : MethodName)) rfl hown (mvT hZ (hq hw 6 rfl)) (mvT hZ (hq hw 7 rfl)) (mvT hZ (hq hw 8 rfl)) (by decide) (backOf (W := 1) (rm1 l Z a0 hw [] b109 h109 n0 z110 A109 fa112 fa113 g_b109) hZ (hq hw 8 rfl) (hq hw 5 rfl) (by decide) (by decide)) (g := (mkF m 73 #[.val (.int p0), .val (.long q1), .second, .val (.int p2), .val (.int p3), .val (.int (1 : Int32)), .val (.int (0 : Int32)), .val (.long dd), .second, .val (.long na), .second, .val (.long nb), .second, .val (.long j103), .second, .val (.double vv), .second, .unset, .unset, .unset, .unset, .unset] [(.int (2 : Int32)), (.ref b109), (.ref b109)])) rfl (by rw [hml]; rfl) (Steps.refl _) (a := b109) (argsL := [(.int (2 : Int32))]) (rest := [(.ref b109)]) (lenOf pd_3 rfl) rfl (by show 2 * 0 + _ ≤ _; exact Nat.le_of_eq rfl) (hb hby at_73) (fun _ _ => ⟨rfl, e109, (by decide : 1 + 2 ≤ _), (by decide : 2 + 4 ≤ _)⟩)
    dsimp only [Pt.U, Pt.locs, Pt.cells, Pt.slots] at X114 l114 y114 z114 st114 hQ114
    subst l114 y114 z114
    obtain ⟨rfl, N114q, K114, A114, ha114, la114, kh114, kl114, Fh114, Fl114, Vh114, Vl114, sq_ha114, sq_la114, ne_ha114_la114⟩ := hQ114
    have N114 := Fr.app N0 N114q
    have ne_b109_ha114 : b109 ≠ ha114 := Nat.ne_of_lt (Nat.lt_of_lt_of_le A109.lt sq_ha114)
    have ne_b109_la114 : b109 ≠ la114 := Nat.ne_of_lt (Nat.lt_of_lt_of_le A109.lt sq_la114)
    have g_ha114 : n0 ≤ ha114 := Nat.le_trans z110 sq_ha114
    have sz_ha114 : h0.size ≤ ha114 := Nat.le_trans kp111.1 sq_ha114
    have g_la114 : n0 ≤ la114 := Nat.le_trans z110 sq_la114
    have sz_la114 : h0.size ≤ la114 := Nat.le_trans kp111.1 sq_la114
    have fa115 := A109.keep K114
    have z116 : n0 ≤ T114.heap.size := Nat.le_trans z110 K114.1
    have kp117 : Keep h0 T114.heap [] := kp111.trans K114 (allS (Or.inr sz_b109) all0)
    obtain ⟨cq118, kq118, q118a, q118b, q118c⟩ := isOf hZ rfl fa115
    obtain ⟨_, _, ⟨T118, L118, k118, n118⟩, -, X118, ⟨Lc118, hQ118, l118, y118, z118⟩, st118⟩ := X114.virtualBack hx (y := (⟨"com/example/degree/degree/retrieval/DoubleDoubles", "setQuotient", "(IJJ)V"⟩ : MethodName)) (z := (⟨"com/example/degree/degree/retrieval/DoubleDoubles", "setQuotient", "(IJJ)V"⟩ : MethodName)) hown (mvT hZ (hq hw 17 rfl)) (mvT hZ (hq hw 18 rfl)) (notFace_of_selects (args := #[]) (mvT hZ (hq hw 20 rfl))) (mvT hZ (hq hw 20 rfl)) (mvT hZ (hq hw 19 rfl)) (by decide) (backOf (W := 0) (rm_setQuotient_1 l Z a0 hw [] b109 na dd ha114 la114 kh114 kl114 0 0 0 0 T114.heap n0 z116 fa115 Fh114 Fl114 Vh114 Vl114 g_ha114 g_la114 ne_ha114_la114 ne_b109_ha114 ne_b109_la114 (own_ok31 (own_ok3 na dd hnr.1 (by omega) hdr.1 hdr.2).1)) hZ (hq hw 21 rfl) (hq hw 5 rfl) (by decide) (by decide)) q118a q118c (g := (mkF m 86 #[.val (.int p0), .val (.long q1), .second, .val (.int p2), .val (.int p3), .val (.int (1 : Int32)), .val (.int (0 : Int32)), .val (.long dd), .second, .val (.long na), .second, .val (.long nb), .second, .val (.long j103), .second, .val (.double vv), .second, .val (.ref b109), .unset, .unset, .unset, .unset] [(.long dd), (.long na), (.int (1 : Int32)), (.ref b109)])) rfl (by rw [hml]; rfl) (Steps.refl _) (argsL := [(.int (1 : Int32)), (.long na), (.long dd)]) (rest := []) (lenOf pd_4 rfl) rfl (by show 2 * 0 + _ ≤ _; exact Nat.le_of_eq rfl) (hb hby at_86) (fun _ _ => ⟨rfl, rfl, (by decide : 3 + 0 ≤ _), (by decide : 6 + 0 ≤ _)⟩)
    dsimp only [Pt.U, Pt.locs, Pt.cells, Pt.slots] at X118 l118 y118 z118 st118 hQ118
    subst l118 y118 z118
    obtain ⟨rfl, N118q, K118, Vh118, Vl118⟩ := hQ118
    have N118 := Fr.app N114 N118q
    have fa119 := fa115.keep K118
    have fa120 := Fh114.keep K118 (ninS ne_b109_ha114 (ninS ne_b109_la114 nin0))
    have fa121 := Fl114.keep K118 (ninS ne_b109_ha114 (ninS ne_b109_la114 nin0))
    have z122 : n0 ≤ T118.heap.size := Nat.le_trans z116 K118.1
    have kp123 : Keep h0 T118.heap [] := kp117.trans K118 (allS (Or.inr sz_ha114) (allS (Or.inr sz_la114) all0))
    obtain ⟨qh118, hqh118⟩ : ∃ z : UInt64, z = (own_qh na dd) := ⟨_, rfl⟩
    obtain ⟨ql118, hql118⟩ : ∃ z : UInt64, z = (own_ql na dd) := ⟨_, rfl⟩
    rw [← hqh118] at Vh118
    rw [← hql118] at Vl118
    obtain ⟨cq124, kq124, q124a, q124b, q124c⟩ := isOf hZ rfl fa119
    obtain ⟨_, _, ⟨T124, L124, k124, n124⟩, -, X124, ⟨Lc124, hQ124, l124, y124, z124⟩, st124⟩ := X118.virtualBack hx (y := (⟨"com/example/degree/degree/retrieval/DoubleDoubles", "setQuotient", "(IJJ)V"⟩ : MethodName)) (z := (⟨"com/example/degree/degree/retrieval/DoubleDoubles", "setQuotient", "(IJJ)V"⟩ : MethodName)) hown (mvT hZ (hq hw 17 rfl)) (mvT hZ (hq hw 18 rfl)) (notFace_of_selects (args := #[]) (mvT hZ (hq hw 20 rfl))) (mvT hZ (hq hw 20 rfl)) (mvT hZ (hq hw 19 rfl)) (by decide) (backOf (W := 0) (rm_setQuotient_0 l Z a0 hw [] b109 nb dd ha114 la114 kh114 kl114 0 qh118 0 ql118 T118.heap n0 z122 fa119 fa120 fa121 Vh118 Vl118 g_ha114 g_la114 ne_ha114_la114 ne_b109_ha114 ne_b109_la114 (own_ok3 nb dd hbr.1 hbr.2 hdr.1 hdr.2).1) hZ (hq hw 21 rfl) (hq hw 5 rfl) (by decide) (by decide)) q124a q124c (g := (mkF m 97 #[.val (.int p0), .val (.long q1), .second, .val (.int p2), .val (.int p3), .val (.int (1 : Int32)), .val (.int (0 : Int32)), .val (.long dd), .second, .val (.long na), .second, .val (.long nb), .second, .val (.long j103), .second, .val (.double vv), .second, .val (.ref b109), .unset, .unset, .unset, .unset] [(.long dd), (.long nb), (.int (0 : Int32)), (.ref b109)])) rfl (by rw [hml]; rfl) (Steps.refl _) (argsL := [(.int (0 : Int32)), (.long nb), (.long dd)]) (rest := []) (lenOf pd_4 rfl) rfl (by show 2 * 0 + _ ≤ _; exact Nat.le_of_eq rfl) (hb hby at_97) (fun _ _ => ⟨rfl, rfl, (by decide : 3 + 0 ≤ _), (by decide : 6 + 0 ≤ _)⟩)
    dsimp only [Pt.U, Pt.locs, Pt.cells, Pt.slots] at X124 l124 y124 z124 st124 hQ124
    subst l124 y124 z124
    obtain ⟨rfl, N124q, K124, Vh124, Vl124⟩ := hQ124
    have N124 := Fr.app N118 N124q
    have fa125 := fa119.keep K124
    have fa126 := fa120.keep K124 (ninS ne_b109_ha114 (ninS ne_b109_la114 nin0))
    have fa127 := fa121.keep K124 (ninS ne_b109_ha114 (ninS ne_b109_la114 nin0))
    have z128 : n0 ≤ T124.heap.size := Nat.le_trans z122 K124.1
    have kp129 : Keep h0 T124.heap [] := kp123.trans K124 (allS (Or.inr sz_ha114) (allS (Or.inr sz_la114) all0))
    obtain ⟨qh124, hqh124⟩ : ∃ z : UInt64, z = (own_qh nb dd) := ⟨_, rfl⟩
    obtain ⟨ql124, hql124⟩ : ∃ z : UInt64, z = (own_ql nb dd) := ⟨_, rfl⟩
    rw [← hqh124] at Vh124
    rw [← hql124] at Vl124
    obtain ⟨cq130, kq130, q130a, q130b, q130c⟩ := isOf hZ rfl fa125
    obtain ⟨_, _, ⟨T130, L130, k130, n130⟩, -, X130, ⟨Lc130, hQ130, l130, y130, z130⟩, st130⟩ := X124.virtualBack hx (y := (⟨"com/example/degree/degree/retrieval/DoubleDoubles", "rounded", "(I)D"⟩ : MethodName)) (z := (⟨"com/example/degree/degree/retrieval/DoubleDoubles", "rounded", "(I)D"⟩ : MethodName)) hown (mvT hZ (hq hw 33 rfl)) (mvT hZ (hq hw 34 rfl)) (notFace_of_selects (args := #[]) (mvT hZ (hq hw 36 rfl))) (mvT hZ (hq hw 36 rfl)) (mvT hZ (hq hw 35 rfl)) (by decide) (backOf (W := 0) (rm_rounded_0 l Z a0 hw [] b109 ha114 la114 kh114 kl114 qh124 qh118 ql124 ql118 T124.heap n0 z128 fa125 fa126 fa127 Vh124 Vl124 g_ha114 g_la114 ne_ha114_la114 ne_b109_ha114 ne_b109_la114) hZ (hq hw 37 rfl) (hq hw 5 rfl) (by decide) (by decide)) q130a q130c (g := (mkF m 104 #[.val (.int p0), .val (.long q1), .second, .val (.int p2), .val (.int p3), .val (.int (1 : Int32)), .val (.int (0 : Int32)), .val (.long dd), .second, .val (.long na), .second, .val (.long nb), .second, .val (.long j103), .second, .val (.double vv), .second, .val (.ref b109), .unset, .unset, .unset, .unset] [(.int (0 : Int32)), (.ref b109)])) rfl (by rw [hml]; rfl) (Steps.refl _) (argsL := [(.int (0 : Int32))]) (rest := []) (lenOf pd_5 rfl) rfl (by show 2 * 0 + _ ≤ _; exact Nat.le_of_eq rfl) (hb hby at_104) (fun _ _ => ⟨rfl, rfl, (by decide : 3 + 0 ≤ _), (by decide : 6 + 0 ≤ _)⟩)
    dsimp only [Pt.U, Pt.locs, Pt.cells, Pt.slots] at X130 l130 y130 z130 st130 hQ130
    subst l130 y130 z130
    obtain ⟨rfl, N130q, eh130⟩ := hQ130
    have N130 := Fr.app N124 N130q
    obtain ⟨cq131, kq131, q131a, q131b, q131c⟩ := isOf hZ eh130 fa125
    obtain ⟨_, _, ⟨T131, L131, k131, n131⟩, -, X131, ⟨Lc131, hQ131, l131, y131, z131⟩, st131⟩ := X130.virtualBack hx (y := (⟨"com/example/degree/degree/retrieval/DoubleDoubles", "set", "(ID)V"⟩ : MethodName)) (z := (⟨"com/example/degree/degree/retrieval/DoubleDoubles", "set", "(ID)V"⟩ : MethodName)) hown (mvT hZ (hq hw 38 rfl)) (mvT hZ (hq hw 39 rfl)) (notFace_of_selects (args := #[]) (mvT hZ (hq hw 41 rfl))) (mvT hZ (hq hw 41 rfl)) (mvT hZ (hq hw 40 rfl)) (by decide) (backOf (W := 0) (rm_set_1 l Z a0 hw [] b109 vv ha114 la114 kh114 kl114 qh124 qh118 ql124 ql118 T124.heap n0 z128 fa125 fa126 fa127 Vh124 Vl124 g_ha114 g_la114 ne_ha114_la114 ne_b109_ha114 ne_b109_la114) hZ (hq hw 42 rfl) (hq hw 5 rfl) (by decide) (by decide)) q131a q131c (g := (mkF m 115 #[.val (.int p0), .val (.long q1), .second, .val (.int p2), .val (.int p3), .val (.int (1 : Int32)), .val (.int (0 : Int32)), .val (.long dd), .second, .val (.long na), .second, .val (.long nb), .second, .val (.long j103), .second, .val (.double vv), .second, .val (.ref b109), .val (.double qh124), .second, .unset, .unset] [(.double vv), (.int (1 : Int32)), (.ref b109)])) rfl (by rw [hml]; rfl) (Steps.refl _) (argsL := [(.int (1 : Int32)), (.double vv)]) (rest := []) (lenOf pd_6 rfl) rfl (by show 2 * 0 + _ ≤ _; exact Nat.le_of_eq rfl) (hb hby at_115) (fun _ _ => ⟨rfl, eh130, (by decide : 3 + 0 ≤ _), (by decide : 6 + 0 ≤ _)⟩)
    dsimp only [Pt.U, Pt.locs, Pt.cells, Pt.slots] at X131 l131 y131 z131 st131 hQ131
    subst l131 y131 z131
    obtain ⟨rfl, N131q, K131, Vh131, Vl131⟩ := hQ131
    have N131 := Fr.app N130 N131q
    have fa132 := fa125.keep K131
    have fa133 := fa126.keep K131 (ninS ne_b109_ha114 (ninS ne_b109_la114 nin0))
    have fa134 := fa127.keep K131 (ninS ne_b109_ha114 (ninS ne_b109_la114 nin0))
    have z135 : n0 ≤ T131.heap.size := Nat.le_trans z128 K131.1
    have kp136 : Keep h0 T131.heap [] := kp129.trans K131 (allS (Or.inr sz_ha114) (allS (Or.inr sz_la114) all0))
    obtain ⟨cq137, kq137, q137a, q137b, q137c⟩ := isOf hZ rfl fa132
    obtain ⟨_, _, ⟨T137, L137, k137, n137⟩, -, X137, ⟨Lc137, hQ137, l137, y137, z137⟩, st137⟩ := X131.virtualBack hx (y := (⟨"com/example/degree/degree/retrieval/DoubleDoubles", "rounded", "(I)D"⟩ : MethodName)) (z := (⟨"com/example/degree/degree/retrieval/DoubleDoubles", "rounded", "(I)D"⟩ : MethodName)) hown (mvT hZ (hq hw 33 rfl)) (mvT hZ (hq hw 34 rfl)) (notFace_of_selects (args := #[]) (mvT hZ (hq hw 36 rfl))) (mvT hZ (hq hw 36 rfl)) (mvT hZ (hq hw 35 rfl)) (by decide) (backOf (W := 0) (rm_rounded_1 l Z a0 hw [] b109 ha114 la114 kh114 kl114 qh124 vv ql124 FP.dconst0 T131.heap n0 z135 fa132 fa133 fa134 Vh131 Vl131 g_ha114 g_la114 ne_ha114_la114 ne_b109_ha114 ne_b109_la114) hZ (hq hw 37 rfl) (hq hw 5 rfl) (by decide) (by decide)) q137a q137c (g := (mkF m 122 #[.val (.int p0), .val (.long q1), .second, .val (.int p2), .val (.int p3), .val (.int (1 : Int32)), .val (.int (0 : Int32)), .val (.long dd), .second, .val (.long na), .second, .val (.long nb), .second, .val (.long j103), .second, .val (.double vv), .second, .val (.ref b109), .val (.double qh124), .second, .unset, .unset] [(.int (1 : Int32)), (.ref b109)])) rfl (by rw [hml]; rfl) (Steps.refl _) (argsL := [(.int (1 : Int32))]) (rest := []) (lenOf pd_5 rfl) rfl (by show 2 * 0 + _ ≤ _; exact Nat.le_of_eq rfl) (hb hby at_122) (fun _ _ => ⟨rfl, rfl, (by decide : 3 + 0 ≤ _), (by decide : 6 + 0 ≤ _)⟩)
    dsimp only [Pt.U, Pt.locs, Pt.cells, Pt.slots] at X137 l137 y137 z137 st137 hQ137
    subst l137 y137 z137
    obtain ⟨rfl, N137q, eh137⟩ := hQ137
    have N137 := Fr.app N131 N137q
    have G138 : ∀ t, Steps p.tables e below (T137.setTop (mkF m 128 #[.val (.int p0), .val (.long q1), .second, .val (.int p2), .val (.int p3), .val (.int (1 : Int32)), .val (.int (0 : Int32)), .val (.long dd), .second, .val (.long na), .second, .val (.long nb), .second, .val (.long j103), .second, .val (.double vv), .second, .val (.ref b109), .val (.double qh124), .second, .unset, .unset] [(.int (cmpValue (FP.dcmp vv vv) CmpOp.l))])) t → Steps p.tables e below (s₁.setTop (entryFrame m #[(.int p0), (.long q1), (.int p2), (.int p3)] maxLocals)) t := by
      intro t kt
      refine G108 _ ?_
      show Steps p.tables e below (s₁.setTop (mkF m 68 #[.val (.int p0), .val (.long q1), .second, .val (.int p2), .val (.int p3), .val (.int (1 : Int32)), .val (.int (0 : Int32)), .val (.long dd), .second, .val (.long na), .second, .val (.long nb), .second, .val (.long j103), .second, .val (.double vv), .second, .unset, .unset, .unset, .unset, .unset] [])) _
      refine st109 _ ?_
      show Steps p.tables e below (T109.setTop (mkF m 71 #[.val (.int p0), .val (.long q1), .second, .val (.int p2), .val (.int p3), .val (.int (1 : Int32)), .val (.int (0 : Int32)), .val (.long dd), .second, .val (.long na), .second, .val (.long nb), .second, .val (.long j103), .second, .val (.double vv), .second, .unset, .unset, .unset, .unset, .unset] [(.ref b109)])) _
      refine XS.dup X109.here hx rfl (hb hby at_71) rfl rfl ?_
      show Steps p.tables e below (T109.setTop (mkF m 72 #[.val (.int p0), .val (.long q1), .second, .val (.int p2), .val (.int p3), .val (.int (1 : Int32)), .val (.int (0 : Int32)), .val (.long dd), .second, .val (.long na), .second, .val (.long nb), .second, .val (.long j103), .second, .val (.double vv), .second, .unset, .unset, .unset, .unset, .unset] [(.ref b109), (.ref b109)])) _
      refine XS.iconst X109.here hx rfl (hb hby at_72) ?_
      show Steps p.tables e below (T109.setTop (mkF m 73 #[.val (.int p0), .val (.long q1), .second, .val (.int p2), .val (.int p3), .val (.int (1 : Int32)), .val (.int (0 : Int32)), .val (.long dd), .second, .val (.long na), .second, .val (.long nb), .second, .val (.long j103), .second, .val (.double vv), .second, .unset, .unset, .unset, .unset, .unset] [(.int (2 : Int32)), (.ref b109), (.ref b109)])) _
      refine st114.trans ?_
      show Steps p.tables e below (T114.setTop (mkF m 76 #[.val (.int p0), .val (.long q1), .second, .val (.int p2), .val (.int p3), .val (.int (1 : Int32)), .val (.int (0 : Int32)), .val (.long dd), .second, .val (.long na), .second, .val (.long nb), .second, .val (.long j103), .second, .val (.double vv), .second, .unset, .unset, .unset, .unset, .unset] [(.ref b109)])) _
      refine XS.astore X114.here hx rfl (hb hby at_76) rfl rfl (l' := #[.val (.int p0), .val (.long q1), .second, .val (.int p2), .val (.int p3), .val (.int (1 : Int32)), .val (.int (0 : Int32)), .val (.long dd), .second, .val (.long na), .second, .val (.long nb), .second, .val (.long j103), .second, .val (.double vv), .second, .val (.ref b109), .unset, .unset, .unset, .unset]) rfl ?_
      show Steps p.tables e below (T114.setTop (mkF m 78 #[.val (.int p0), .val (.long q1), .second, .val (.int p2), .val (.int p3), .val (.int (1 : Int32)), .val (.int (0 : Int32)), .val (.long dd), .second, .val (.long na), .second, .val (.long nb), .second, .val (.long j103), .second, .val (.double vv), .second, .val (.ref b109), .unset, .unset, .unset, .unset] [])) _
      refine XS.aload X114.here hx rfl (hb hby at_78) rfl rfl ?_
      show Steps p.tables e below (T114.setTop (mkF m 80 #[.val (.int p0), .val (.long q1), .second, .val (.int p2), .val (.int p3), .val (.int (1 : Int32)), .val (.int (0 : Int32)), .val (.long dd), .second, .val (.long na), .second, .val (.long nb), .second, .val (.long j103), .second, .val (.double vv), .second, .val (.ref b109), .unset, .unset, .unset, .unset] [(.ref b109)])) _
      refine XS.iload X114.here hx rfl (hb hby at_80) rfl ?_
      show Steps p.tables e below (T114.setTop (mkF m 82 #[.val (.int p0), .val (.long q1), .second, .val (.int p2), .val (.int p3), .val (.int (1 : Int32)), .val (.int (0 : Int32)), .val (.long dd), .second, .val (.long na), .second, .val (.long nb), .second, .val (.long j103), .second, .val (.double vv), .second, .val (.ref b109), .unset, .unset, .unset, .unset] [(.int (1 : Int32)), (.ref b109)])) _
      refine XS.lload X114.here hx rfl (hb hby at_82) rfl ?_
      show Steps p.tables e below (T114.setTop (mkF m 84 #[.val (.int p0), .val (.long q1), .second, .val (.int p2), .val (.int p3), .val (.int (1 : Int32)), .val (.int (0 : Int32)), .val (.long dd), .second, .val (.long na), .second, .val (.long nb), .second, .val (.long j103), .second, .val (.double vv), .second, .val (.ref b109), .unset, .unset, .unset, .unset] [(.long na), (.int (1 : Int32)), (.ref b109)])) _
      refine XS.lload X114.here hx rfl (hb hby at_84) rfl ?_
      show Steps p.tables e below (T114.setTop (mkF m 86 #[.val (.int p0), .val (.long q1), .second, .val (.int p2), .val (.int p3), .val (.int (1 : Int32)), .val (.int (0 : Int32)), .val (.long dd), .second, .val (.long na), .second, .val (.long nb), .second, .val (.long j103), .second, .val (.double vv), .second, .val (.ref b109), .unset, .unset, .unset, .unset] [(.long dd), (.long na), (.int (1 : Int32)), (.ref b109)])) _
      refine st118.trans ?_
      show Steps p.tables e below (T118.setTop (mkF m 89 #[.val (.int p0), .val (.long q1), .second, .val (.int p2), .val (.int p3), .val (.int (1 : Int32)), .val (.int (0 : Int32)), .val (.long dd), .second, .val (.long na), .second, .val (.long nb), .second, .val (.long j103), .second, .val (.double vv), .second, .val (.ref b109), .unset, .unset, .unset, .unset] [])) _
      refine XS.aload X118.here hx rfl (hb hby at_89) rfl rfl ?_
      show Steps p.tables e below (T118.setTop (mkF m 91 #[.val (.int p0), .val (.long q1), .second, .val (.int p2), .val (.int p3), .val (.int (1 : Int32)), .val (.int (0 : Int32)), .val (.long dd), .second, .val (.long na), .second, .val (.long nb), .second, .val (.long j103), .second, .val (.double vv), .second, .val (.ref b109), .unset, .unset, .unset, .unset] [(.ref b109)])) _
      refine XS.iload X118.here hx rfl (hb hby at_91) rfl ?_
      show Steps p.tables e below (T118.setTop (mkF m 93 #[.val (.int p0), .val (.long q1), .second, .val (.int p2), .val (.int p3), .val (.int (1 : Int32)), .val (.int (0 : Int32)), .val (.long dd), .second, .val (.long na), .second, .val (.long nb), .second, .val (.long j103), .second, .val (.double vv), .second, .val (.ref b109), .unset, .unset, .unset, .unset] [(.int (0 : Int32)), (.ref b109)])) _
      refine XS.lload X118.here hx rfl (hb hby at_93) rfl ?_
      show Steps p.tables e below (T118.setTop (mkF m 95 #[.val (.int p0), .val (.long q1), .second, .val (.int p2), .val (.int p3), .val (.int (1 : Int32)), .val (.int (0 : Int32)), .val (.long dd), .second, .val (.long na), .second, .val (.long nb), .second, .val (.long j103), .second, .val (.double vv), .second, .val (.ref b109), .unset, .unset, .unset, .unset] [(.long nb), (.int (0 : Int32)), (.ref b109)])) _
      refine XS.lload X118.here hx rfl (hb hby at_95) rfl ?_
      show Steps p.tables e below (T118.setTop (mkF m 97 #[.val (.int p0), .val (.long q1), .second, .val (.int p2), .val (.int p3), .val (.int (1 : Int32)), .val (.int (0 : Int32)), .val (.long dd), .second, .val (.long na), .second, .val (.long nb), .second, .val (.long j103), .second, .val (.double vv), .second, .val (.ref b109), .unset, .unset, .unset, .unset] [(.long dd), (.long nb), (.int (0 : Int32)), (.ref b109)])) _
      refine st124.trans ?_
      show Steps p.tables e below (T124.setTop (mkF m 100 #[.val (.int p0), .val (.long q1), .second, .val (.int p2), .val (.int p3), .val (.int (1 : Int32)), .val (.int (0 : Int32)), .val (.long dd), .second, .val (.long na), .second, .val (.long nb), .second, .val (.long j103), .second, .val (.double vv), .second, .val (.ref b109), .unset, .unset, .unset, .unset] [])) _
      refine XS.aload X124.here hx rfl (hb hby at_100) rfl rfl ?_
      show Steps p.tables e below (T124.setTop (mkF m 102 #[.val (.int p0), .val (.long q1), .second, .val (.int p2), .val (.int p3), .val (.int (1 : Int32)), .val (.int (0 : Int32)), .val (.long dd), .second, .val (.long na), .second, .val (.long nb), .second, .val (.long j103), .second, .val (.double vv), .second, .val (.ref b109), .unset, .unset, .unset, .unset] [(.ref b109)])) _
      refine XS.iload X124.here hx rfl (hb hby at_102) rfl ?_
      show Steps p.tables e below (T124.setTop (mkF m 104 #[.val (.int p0), .val (.long q1), .second, .val (.int p2), .val (.int p3), .val (.int (1 : Int32)), .val (.int (0 : Int32)), .val (.long dd), .second, .val (.long na), .second, .val (.long nb), .second, .val (.long j103), .second, .val (.double vv), .second, .val (.ref b109), .unset, .unset, .unset, .unset] [(.int (0 : Int32)), (.ref b109)])) _
      refine st130.trans ?_
      show Steps p.tables e below (T130.setTop (mkF m 107 #[.val (.int p0), .val (.long q1), .second, .val (.int p2), .val (.int p3), .val (.int (1 : Int32)), .val (.int (0 : Int32)), .val (.long dd), .second, .val (.long na), .second, .val (.long nb), .second, .val (.long j103), .second, .val (.double vv), .second, .val (.ref b109), .unset, .unset, .unset, .unset] [(.double qh124)])) _
      refine XS.dstore X130.here hx rfl (hb hby at_107) rfl (l' := #[.val (.int p0), .val (.long q1), .second, .val (.int p2), .val (.int p3), .val (.int (1 : Int32)), .val (.int (0 : Int32)), .val (.long dd), .second, .val (.long na), .second, .val (.long nb), .second, .val (.long j103), .second, .val (.double vv), .second, .val (.ref b109), .val (.double qh124), .second, .unset, .unset]) rfl ?_
      show Steps p.tables e below (T130.setTop (mkF m 109 #[.val (.int p0), .val (.long q1), .second, .val (.int p2), .val (.int p3), .val (.int (1 : Int32)), .val (.int (0 : Int32)), .val (.long dd), .second, .val (.long na), .second, .val (.long nb), .second, .val (.long j103), .second, .val (.double vv), .second, .val (.ref b109), .val (.double qh124), .second, .unset, .unset] [])) _
      refine XS.aload X130.here hx rfl (hb hby at_109) rfl rfl ?_
      show Steps p.tables e below (T130.setTop (mkF m 111 #[.val (.int p0), .val (.long q1), .second, .val (.int p2), .val (.int p3), .val (.int (1 : Int32)), .val (.int (0 : Int32)), .val (.long dd), .second, .val (.long na), .second, .val (.long nb), .second, .val (.long j103), .second, .val (.double vv), .second, .val (.ref b109), .val (.double qh124), .second, .unset, .unset] [(.ref b109)])) _
      refine XS.iload X130.here hx rfl (hb hby at_111) rfl ?_
      show Steps p.tables e below (T130.setTop (mkF m 113 #[.val (.int p0), .val (.long q1), .second, .val (.int p2), .val (.int p3), .val (.int (1 : Int32)), .val (.int (0 : Int32)), .val (.long dd), .second, .val (.long na), .second, .val (.long nb), .second, .val (.long j103), .second, .val (.double vv), .second, .val (.ref b109), .val (.double qh124), .second, .unset, .unset] [(.int (1 : Int32)), (.ref b109)])) _
      refine XS.dload X130.here hx rfl (hb hby at_113) rfl ?_
      show Steps p.tables e below (T130.setTop (mkF m 115 #[.val (.int p0), .val (.long q1), .second, .val (.int p2), .val (.int p3), .val (.int (1 : Int32)), .val (.int (0 : Int32)), .val (.long dd), .second, .val (.long na), .second, .val (.long nb), .second, .val (.long j103), .second, .val (.double vv), .second, .val (.ref b109), .val (.double qh124), .second, .unset, .unset] [(.double vv), (.int (1 : Int32)), (.ref b109)])) _
      refine st131.trans ?_
      show Steps p.tables e below (T131.setTop (mkF m 118 #[.val (.int p0), .val (.long q1), .second, .val (.int p2), .val (.int p3), .val (.int (1 : Int32)), .val (.int (0 : Int32)), .val (.long dd), .second, .val (.long na), .second, .val (.long nb), .second, .val (.long j103), .second, .val (.double vv), .second, .val (.ref b109), .val (.double qh124), .second, .unset, .unset] [])) _
      refine XS.aload X131.here hx rfl (hb hby at_118) rfl rfl ?_
      show Steps p.tables e below (T131.setTop (mkF m 120 #[.val (.int p0), .val (.long q1), .second, .val (.int p2), .val (.int p3), .val (.int (1 : Int32)), .val (.int (0 : Int32)), .val (.long dd), .second, .val (.long na), .second, .val (.long nb), .second, .val (.long j103), .second, .val (.double vv), .second, .val (.ref b109), .val (.double qh124), .second, .unset, .unset] [(.ref b109)])) _
      refine XS.iload X131.here hx rfl (hb hby at_120) rfl ?_
      show Steps p.tables e below (T131.setTop (mkF m 122 #[.val (.int p0), .val (.long q1), .second, .val (.int p2), .val (.int p3), .val (.int (1 : Int32)), .val (.int (0 : Int32)), .val (.long dd), .second, .val (.long na), .second, .val (.long nb), .second, .val (.long j103), .second, .val (.double vv), .second, .val (.ref b109), .val (.double qh124), .second, .unset, .unset] [(.int (1 : Int32)), (.ref b109)])) _
      refine st137.trans ?_
      show Steps p.tables e below (T137.setTop (mkF m 125 #[.val (.int p0), .val (.long q1), .second, .val (.int p2), .val (.int p3), .val (.int (1 : Int32)), .val (.int (0 : Int32)), .val (.long dd), .second, .val (.long na), .second, .val (.long nb), .second, .val (.long j103), .second, .val (.double vv), .second, .val (.ref b109), .val (.double qh124), .second, .unset, .unset] [(.double vv)])) _
      refine XS.dload X137.here hx rfl (hb hby at_125) rfl ?_
      show Steps p.tables e below (T137.setTop (mkF m 127 #[.val (.int p0), .val (.long q1), .second, .val (.int p2), .val (.int p3), .val (.int (1 : Int32)), .val (.int (0 : Int32)), .val (.long dd), .second, .val (.long na), .second, .val (.long nb), .second, .val (.long j103), .second, .val (.double vv), .second, .val (.ref b109), .val (.double qh124), .second, .unset, .unset] [(.double vv), (.double vv)])) _
      refine XS.dcmpS X137.here hx rfl (hb hby at_127) rfl rfl ?_
      exact kt
    have hc128_139 : (cmpValue (FP.dcmp vv vv) CmpOp.l) = (0 : Int32) := own_same (own_bv hmr hvv) _
    obtain ⟨cq140, kq140, q140a, q140b, q140c⟩ := isOf hZ eh137 fa132
    obtain ⟨_, _, ⟨T140, L140, k140, n140⟩, -, X140, ⟨Lc140, hQ140, l140, y140, z140⟩, st140⟩ := X137.virtualBack hx (y := (⟨"com/example/degree/degree/retrieval/DoubleDoubles", "rounded", "(I)D"⟩ : MethodName)) (z := (⟨"com/example/degree/degree/retrieval/DoubleDoubles", "rounded", "(I)D"⟩ : MethodName)) hown (mvT hZ (hq hw 33 rfl)) (mvT hZ (hq hw 34 rfl)) (notFace_of_selects (args := #[]) (mvT hZ (hq hw 36 rfl))) (mvT hZ (hq hw 36 rfl)) (mvT hZ (hq hw 35 rfl)) (by decide) (backOf (W := 0) (rm_rounded_0 l Z a0 hw [] b109 ha114 la114 kh114 kl114 qh124 vv ql124 FP.dconst0 T131.heap n0 z135 fa132 fa133 fa134 Vh131 Vl131 g_ha114 g_la114 ne_ha114_la114 ne_b109_ha114 ne_b109_la114) hZ (hq hw 37 rfl) (hq hw 5 rfl) (by decide) (by decide)) q140a q140c (g := (mkF m 135 #[.val (.int p0), .val (.long q1), .second, .val (.int p2), .val (.int p3), .val (.int (1 : Int32)), .val (.int (0 : Int32)), .val (.long dd), .second, .val (.long na), .second, .val (.long nb), .second, .val (.long j103), .second, .val (.double vv), .second, .val (.ref b109), .val (.double qh124), .second, .unset, .unset] [(.int (0 : Int32)), (.ref b109)])) rfl (by rw [hml]; rfl) (Steps.refl _) (argsL := [(.int (0 : Int32))]) (rest := []) (lenOf pd_5 rfl) rfl (by show 2 * 0 + _ ≤ _; exact Nat.le_of_eq rfl) (hb hby at_135) (fun _ _ => ⟨rfl, eh137, (by decide : 3 + 0 ≤ _), (by decide : 6 + 0 ≤ _)⟩)
    dsimp only [Pt.U, Pt.locs, Pt.cells, Pt.slots] at X140 l140 y140 z140 st140 hQ140
    subst l140 y140 z140
    obtain ⟨rfl, N140q, eh140⟩ := hQ140
    have N140 := Fr.app N137 N140q
    have G141 : ∀ t, Steps p.tables e below (T140.setTop (mkF m 141 #[.val (.int p0), .val (.long q1), .second, .val (.int p2), .val (.int p3), .val (.int (1 : Int32)), .val (.int (0 : Int32)), .val (.long dd), .second, .val (.long na), .second, .val (.long nb), .second, .val (.long j103), .second, .val (.double vv), .second, .val (.ref b109), .val (.double qh124), .second, .unset, .unset] [(.int (cmpValue (FP.dcmp qh124 qh124) CmpOp.l))])) t → Steps p.tables e below (s₁.setTop (entryFrame m #[(.int p0), (.long q1), (.int p2), (.int p3)] maxLocals)) t := by
      intro t kt
      refine G138 _ ?_
      show Steps p.tables e below (T137.setTop (mkF m 128 #[.val (.int p0), .val (.long q1), .second, .val (.int p2), .val (.int p3), .val (.int (1 : Int32)), .val (.int (0 : Int32)), .val (.long dd), .second, .val (.long na), .second, .val (.long nb), .second, .val (.long j103), .second, .val (.double vv), .second, .val (.ref b109), .val (.double qh124), .second, .unset, .unset] [(.int (cmpValue (FP.dcmp vv vv) CmpOp.l))])) _
      refine XS.ifNo X137.here hx rfl (hb hby at_128) rfl ((if0 _ _).trans (teq hc128_139).2) ?_
      show Steps p.tables e below (T137.setTop (mkF m 131 #[.val (.int p0), .val (.long q1), .second, .val (.int p2), .val (.int p3), .val (.int (1 : Int32)), .val (.int (0 : Int32)), .val (.long dd), .second, .val (.long na), .second, .val (.long nb), .second, .val (.long j103), .second, .val (.double vv), .second, .val (.ref b109), .val (.double qh124), .second, .unset, .unset] [])) _
      refine XS.aload X137.here hx rfl (hb hby at_131) rfl rfl ?_
      show Steps p.tables e below (T137.setTop (mkF m 133 #[.val (.int p0), .val (.long q1), .second, .val (.int p2), .val (.int p3), .val (.int (1 : Int32)), .val (.int (0 : Int32)), .val (.long dd), .second, .val (.long na), .second, .val (.long nb), .second, .val (.long j103), .second, .val (.double vv), .second, .val (.ref b109), .val (.double qh124), .second, .unset, .unset] [(.ref b109)])) _
      refine XS.iload X137.here hx rfl (hb hby at_133) rfl ?_
      show Steps p.tables e below (T137.setTop (mkF m 135 #[.val (.int p0), .val (.long q1), .second, .val (.int p2), .val (.int p3), .val (.int (1 : Int32)), .val (.int (0 : Int32)), .val (.long dd), .second, .val (.long na), .second, .val (.long nb), .second, .val (.long j103), .second, .val (.double vv), .second, .val (.ref b109), .val (.double qh124), .second, .unset, .unset] [(.int (0 : Int32)), (.ref b109)])) _
      refine st140.trans ?_
      show Steps p.tables e below (T140.setTop (mkF m 138 #[.val (.int p0), .val (.long q1), .second, .val (.int p2), .val (.int p3), .val (.int (1 : Int32)), .val (.int (0 : Int32)), .val (.long dd), .second, .val (.long na), .second, .val (.long nb), .second, .val (.long j103), .second, .val (.double vv), .second, .val (.ref b109), .val (.double qh124), .second, .unset, .unset] [(.double qh124)])) _
      refine XS.dload X140.here hx rfl (hb hby at_138) rfl ?_
      show Steps p.tables e below (T140.setTop (mkF m 140 #[.val (.int p0), .val (.long q1), .second, .val (.int p2), .val (.int p3), .val (.int (1 : Int32)), .val (.int (0 : Int32)), .val (.long dd), .second, .val (.long na), .second, .val (.long nb), .second, .val (.long j103), .second, .val (.double vv), .second, .val (.ref b109), .val (.double qh124), .second, .unset, .unset] [(.double qh124), (.double qh124)])) _
      refine XS.dcmpS X140.here hx rfl (hb hby at_140) rfl rfl ?_
      exact kt
    have hc141_142 : (cmpValue (FP.dcmp qh124 qh124) CmpOp.l) = (0 : Int32) := own_same (k := 2334) (hqh124 ▸ (own_ok3 nb dd hbr.1 hbr.2 hdr.1 hdr.2).2.1) _
    obtain ⟨T143, h143, X143, e143, E143, A143, D143, -, st143⟩ := newO X140 hx hZ hown (hq hw 3 rfl) (hq hw 4 rfl) (hq hw 5 rfl) eh140 (g := (mkF m 151 #[.val (.int p0), .val (.long q1), .second, .val (.int p2), .val (.int p3), .val (.int (1 : Int32)), .val (.int (0 : Int32)), .val (.long dd), .second, .val (.long na), .second, .val (.long nb), .second, .val (.long j103), .second, .val (.double vv), .second, .val (.ref b109), .val (.double qh124), .second, .val (.int (1 : Int32)), .unset] [])) rfl (hb hby at_151) (by decide) (by decide)
    obtain ⟨b143, g143⟩ : ∃ z, z = T131.heap.size := ⟨_, rfl⟩
    rw [← g143] at A143 D143 st143
    have g_b143 : n0 ≤ b143 := Nat.le_trans z135 (Nat.le_of_eq g143.symm)
    have sz_b143 : h0.size ≤ b143 := Nat.le_trans kp136.1 (Nat.le_of_eq g143.symm)
    have ne_b109_b143 : b109 ≠ b143 := Nat.ne_of_lt (Nat.lt_of_lt_of_le fa132.lt (Nat.le_of_eq g143.symm))
    have ne_ha114_b143 : ha114 ≠ b143 := Nat.ne_of_lt (Nat.lt_of_lt_of_le Vh131.lt (Nat.le_of_eq g143.symm))
    have ne_la114_b143 : la114 ≠ b143 := Nat.ne_of_lt (Nat.lt_of_lt_of_le Vl131.lt (Nat.le_of_eq g143.symm))
    have fa144 := fa132.ext E143
    have fa145 := fa133.ext E143
    have fa146 := fa134.ext E143
    have fa147 := Vh131.ext E143
    have fa148 := Vl131.ext E143
    have z149 : n0 ≤ h143.size := Nat.le_trans z135 E143.1
    have kp150 : Keep h0 h143 [] := kp136.ext E143
    have fa151 : Fld Z h143 b143 "com/example/degree/degree/retrieval/DoubleDoubles" "high" "[D" .null := D143 (Or.inr (hq hw 14 rfl)) (ty := (.array .double)) (by decide)
    have fa152 : Fld Z h143 b143 "com/example/degree/degree/retrieval/DoubleDoubles" "low" "[D" .null := D143 (Or.inr (hq hw 16 rfl)) (ty := (.array .double)) (by decide)
    obtain ⟨_, _, ⟨T153, L153, k153, n153⟩, -, X153, ⟨Lc153, hQ153, l153, y153, z153⟩, st153⟩ := X143.specialBack hx (y := (⟨"com/example/degree/degree/retrieval/DoubleDoubles", "<init>", "(I)V"⟩ : MethodName)) rfl hown (mvT hZ (hq hw 6 rfl)) (mvT hZ (hq hw 7 rfl)) (mvT hZ (hq hw 8 rfl)) (by decide) (backOf (W := 1) (rm1 l Z a0 hw [] b143 h143 n0 z149 A143 fa151 fa152 g_b143) hZ (hq hw 8 rfl) (hq hw 5 rfl) (by decide) (by decide)) (g := (mkF m 156 #[.val (.int p0), .val (.long q1), .second, .val (.int p2), .val (.int p3), .val (.int (1 : Int32)), .val (.int (0 : Int32)), .val (.long dd), .second, .val (.long na), .second, .val (.long nb), .second, .val (.long j103), .second, .val (.double vv), .second, .val (.ref b109), .val (.double qh124), .second, .val (.int (1 : Int32)), .unset] [(.int (2 : Int32)), (.ref b143), (.ref b143)])) rfl (by rw [hml]; rfl) (Steps.refl _) (a := b143) (argsL := [(.int (2 : Int32))]) (rest := [(.ref b143)]) (lenOf pd_3 rfl) rfl (by show 2 * 0 + _ ≤ _; exact Nat.le_of_eq rfl) (hb hby at_156) (fun _ _ => ⟨rfl, e143, (by decide : 4 + 2 ≤ _), (by decide : 8 + 4 ≤ _)⟩)
    dsimp only [Pt.U, Pt.locs, Pt.cells, Pt.slots] at X153 l153 y153 z153 st153 hQ153
    subst l153 y153 z153
    obtain ⟨rfl, N153q, K153, A153, ha153, la153, kh153, kl153, Fh153, Fl153, Vh153, Vl153, sq_ha153, sq_la153, ne_ha153_la153⟩ := hQ153
    have N153 := Fr.app N140 N153q
    have ne_b109_ha153 : b109 ≠ ha153 := Nat.ne_of_lt (Nat.lt_of_lt_of_le fa144.lt sq_ha153)
    have ne_b109_la153 : b109 ≠ la153 := Nat.ne_of_lt (Nat.lt_of_lt_of_le fa144.lt sq_la153)
    have ne_ha114_ha153 : ha114 ≠ ha153 := Nat.ne_of_lt (Nat.lt_of_lt_of_le fa147.lt sq_ha153)
    have ne_ha114_la153 : ha114 ≠ la153 := Nat.ne_of_lt (Nat.lt_of_lt_of_le fa147.lt sq_la153)
    have ne_la114_ha153 : la114 ≠ ha153 := Nat.ne_of_lt (Nat.lt_of_lt_of_le fa148.lt sq_ha153)
    have ne_la114_la153 : la114 ≠ la153 := Nat.ne_of_lt (Nat.lt_of_lt_of_le fa148.lt sq_la153)
    have ne_b143_ha153 : b143 ≠ ha153 := Nat.ne_of_lt (Nat.lt_of_lt_of_le A143.lt sq_ha153)
    have ne_b143_la153 : b143 ≠ la153 := Nat.ne_of_lt (Nat.lt_of_lt_of_le A143.lt sq_la153)
    have g_ha153 : n0 ≤ ha153 := Nat.le_trans z149 sq_ha153
    have sz_ha153 : h0.size ≤ ha153 := Nat.le_trans kp150.1 sq_ha153
    have g_la153 : n0 ≤ la153 := Nat.le_trans z149 sq_la153
    have sz_la153 : h0.size ≤ la153 := Nat.le_trans kp150.1 sq_la153
    have fa154 := fa144.keep K153
    have fa155 := fa145.keep K153 (ninS ne_b109_b143 nin0)
    have fa156 := fa146.keep K153 (ninS ne_b109_b143 nin0)
    have fa157 := fa147.keep K153 (ninS ne_ha114_b143 nin0)
    have fa158 := fa148.keep K153 (ninS ne_la114_b143 nin0)
    have fa159 := A143.keep K153
    have z160 : n0 ≤ T153.heap.size := Nat.le_trans z149 K153.1
    have kp161 : Keep h0 T153.heap [] := kp150.trans K153 (allS (Or.inr sz_b143) all0)
    obtain ⟨cq162, kq162, q162a, q162b, q162c⟩ := isOf hZ rfl fa159
    obtain ⟨_, _, ⟨T162, L162, k162, n162⟩, -, X162, ⟨Lc162, hQ162, l162, y162, z162⟩, st162⟩ := X153.virtualBack hx (y := (⟨"com/example/degree/degree/retrieval/DoubleDoubles", "fill", "(D)V"⟩ : MethodName)) (z := (⟨"com/example/degree/degree/retrieval/DoubleDoubles", "fill", "(D)V"⟩ : MethodName)) hown (mvT hZ (hq hw 43 rfl)) (mvT hZ (hq hw 44 rfl)) (notFace_of_selects (args := #[]) (mvT hZ (hq hw 46 rfl))) (mvT hZ (hq hw 46 rfl)) (mvT hZ (hq hw 45 rfl)) (by decide) (backOf (W := 0) (rm9 l Z a0 hw [] b143 FP.dconst1 ha153 la153 kh153 kl153 0 0 0 0 T153.heap n0 z160 fa159 Fh153 Fl153 Vh153 Vl153 g_ha153 g_la153 ne_ha153_la153 ne_b143_ha153 ne_b143_la153) hZ (hq hw 47 rfl) (hq hw 5 rfl) (by decide) (by decide)) q162a q162c (g := (mkF m 164 #[.val (.int p0), .val (.long q1), .second, .val (.int p2), .val (.int p3), .val (.int (1 : Int32)), .val (.int (0 : Int32)), .val (.long dd), .second, .val (.long na), .second, .val (.long nb), .second, .val (.long j103), .second, .val (.double vv), .second, .val (.ref b109), .val (.double qh124), .second, .val (.int (1 : Int32)), .val (.ref b143)] [(.double FP.dconst1), (.ref b143)])) rfl (by rw [hml]; rfl) (Steps.refl _) (argsL := [(.double FP.dconst1)]) (rest := []) (lenOf pd_7 rfl) rfl (by show 2 * 0 + _ ≤ _; exact Nat.le_of_eq rfl) (hb hby at_164) (fun _ _ => ⟨rfl, rfl, (by decide : 6 + 0 ≤ _), (by decide : 12 + 0 ≤ _)⟩)
    dsimp only [Pt.U, Pt.locs, Pt.cells, Pt.slots] at X162 l162 y162 z162 st162 hQ162
    subst l162 y162 z162
    obtain ⟨rfl, N162q, K162, Vh162, Vl162⟩ := hQ162
    have N162 := Fr.app N153 N162q
    have fa163 := fa154.keep K162
    have fa164 := fa155.keep K162 (ninS ne_b109_ha153 (ninS ne_b109_la153 nin0))
    have fa165 := fa156.keep K162 (ninS ne_b109_ha153 (ninS ne_b109_la153 nin0))
    have fa166 := fa157.keep K162 (ninS ne_ha114_ha153 (ninS ne_ha114_la153 nin0))
    have fa167 := fa158.keep K162 (ninS ne_la114_ha153 (ninS ne_la114_la153 nin0))
    have fa168 := fa159.keep K162
    have fa169 := Fh153.keep K162 (ninS ne_b143_ha153 (ninS ne_b143_la153 nin0))
    have fa170 := Fl153.keep K162 (ninS ne_b143_ha153 (ninS ne_b143_la153 nin0))
    have z171 : n0 ≤ T162.heap.size := Nat.le_trans z160 K162.1
    have kp172 : Keep h0 T162.heap [] := kp161.trans K162 (allS (Or.inr sz_ha153) (allS (Or.inr sz_la153) all0))
    obtain ⟨cq173, kq173, q173a, q173b, q173c⟩ := isOf hZ rfl fa168
    obtain ⟨_, _, ⟨T173, L173, k173, n173⟩, -, X173, ⟨Lc173, hQ173, l173, y173, z173⟩, st173⟩ := X162.virtualBack hx (y := (⟨"com/example/degree/degree/retrieval/DoubleDoubles", "multiplyByComplements", "(Lcom/example/degree/degree/retrieval/DoubleDoubles;)V"⟩ : MethodName)) (z := (⟨"com/example/degree/degree/retrieval/DoubleDoubles", "multiplyByComplements", "(Lcom/example/degree/degree/retrieval/DoubleDoubles;)V"⟩ : MethodName)) hown (mvT hZ (hq hw 52 rfl)) (mvT hZ (hq hw 53 rfl)) (notFace_of_selects (args := #[]) (mvT hZ (hq hw 55 rfl))) (mvT hZ (hq hw 55 rfl)) (mvT hZ (hq hw 54 rfl)) (by decide) (backOf (W := 0) (rm11 l Z a0 hw [] b143 b109 ha153 la153 kh153 kl153 FP.dconst1 FP.dconst1 FP.dconst0 FP.dconst0 ha114 la114 kh114 kl114 qh124 vv ql124 FP.dconst0 T162.heap n0 z171 fa168 fa169 fa170 Vh162 Vl162 fa163 fa164 fa165 fa166 fa167 g_ha153 g_la153 ne_ha153_la153 ne_b143_ha153 ne_b143_la153 ne_b109_ha153 ne_b109_la153 ne_ha114_ha153 ne_ha114_la153 ne_la114_ha153 ne_la114_la153 (own_ok11 (own_bm (hqh124 ▸ (own_ok3 nb dd hbr.1 hbr.2 hdr.1 hdr.2).2.1) (by decide)) (own_bm (hql124 ▸ (own_ok3 nb dd hbr.1 hbr.2 hdr.1 hdr.2).2.2) (by decide)) (own_bv hmr hvv) (own_bm own_b0 (by decide)))) hZ (hq hw 56 rfl) (hq hw 5 rfl) (by decide) (by decide)) q173a q173c (g := (mkF m 171 #[.val (.int p0), .val (.long q1), .second, .val (.int p2), .val (.int p3), .val (.int (1 : Int32)), .val (.int (0 : Int32)), .val (.long dd), .second, .val (.long na), .second, .val (.long nb), .second, .val (.long j103), .second, .val (.double vv), .second, .val (.ref b109), .val (.double qh124), .second, .val (.int (1 : Int32)), .val (.ref b143)] [(.ref b109), (.ref b143)])) rfl (by rw [hml]; rfl) (Steps.refl _) (argsL := [(.ref b109)]) (rest := []) (lenOf pd_8 rfl) rfl (by show 2 * 0 + _ ≤ _; exact Nat.le_of_eq rfl) (hb hby at_171) (fun _ _ => ⟨rfl, rfl, (by decide : 6 + 0 ≤ _), (by decide : 12 + 0 ≤ _)⟩)
    dsimp only [Pt.U, Pt.locs, Pt.cells, Pt.slots] at X173 l173 y173 z173 st173 hQ173
    subst l173 y173 z173
    obtain ⟨rfl, N173q, K173, Vh173, Vl173⟩ := hQ173
    have N173 := Fr.app N162 N173q
    have fa174 := fa163.keep K173
    have fa175 := fa164.keep K173 (ninS ne_b109_ha153 (ninS ne_b109_la153 nin0))
    have fa176 := fa165.keep K173 (ninS ne_b109_ha153 (ninS ne_b109_la153 nin0))
    have fa177 := fa166.keep K173 (ninS ne_ha114_ha153 (ninS ne_ha114_la153 nin0))
    have fa178 := fa167.keep K173 (ninS ne_la114_ha153 (ninS ne_la114_la153 nin0))
    have fa179 := fa168.keep K173
    have fa180 := fa169.keep K173 (ninS ne_b143_ha153 (ninS ne_b143_la153 nin0))
    have fa181 := fa170.keep K173 (ninS ne_b143_ha153 (ninS ne_b143_la153 nin0))
    have z182 : n0 ≤ T173.heap.size := Nat.le_trans z171 K173.1
    have kp183 : Keep h0 T173.heap [] := kp172.trans K173 (allS (Or.inr sz_ha153) (allS (Or.inr sz_la153) all0))
    have G184 : ∀ t, Steps p.tables e below (T173.setTop (mkF m 176 #[.val (.int p0), .val (.long q1), .second, .val (.int p2), .val (.int p3), .val (.int (1 : Int32)), .val (.int (0 : Int32)), .val (.long dd), .second, .val (.long na), .second, .val (.long nb), .second, .val (.long j103), .second, .val (.double vv), .second, .val (.ref b109), .val (.double qh124), .second, .val (.int (1 : Int32)), .val (.ref b143)] [(.int (1 : Int32))])) t → Steps p.tables e below (s₁.setTop (entryFrame m #[(.int p0), (.long q1), (.int p2), (.int p3)] maxLocals)) t := by
      intro t kt
      refine G141 _ ?_
      show Steps p.tables e below (T140.setTop (mkF m 141 #[.val (.int p0), .val (.long q1), .second, .val (.int p2), .val (.int p3), .val (.int (1 : Int32)), .val (.int (0 : Int32)), .val (.long dd), .second, .val (.long na), .second, .val (.long nb), .second, .val (.long j103), .second, .val (.double vv), .second, .val (.ref b109), .val (.double qh124), .second, .unset, .unset] [(.int (cmpValue (FP.dcmp qh124 qh124) CmpOp.l))])) _
      refine XS.ifNo X140.here hx rfl (hb hby at_141) rfl ((if0 _ _).trans (teq hc141_142).2) ?_
      show Steps p.tables e below (T140.setTop (mkF m 144 #[.val (.int p0), .val (.long q1), .second, .val (.int p2), .val (.int p3), .val (.int (1 : Int32)), .val (.int (0 : Int32)), .val (.long dd), .second, .val (.long na), .second, .val (.long nb), .second, .val (.long j103), .second, .val (.double vv), .second, .val (.ref b109), .val (.double qh124), .second, .unset, .unset] [])) _
      refine XS.iconst X140.here hx rfl (hb hby at_144) ?_
      show Steps p.tables e below (T140.setTop (mkF m 145 #[.val (.int p0), .val (.long q1), .second, .val (.int p2), .val (.int p3), .val (.int (1 : Int32)), .val (.int (0 : Int32)), .val (.long dd), .second, .val (.long na), .second, .val (.long nb), .second, .val (.long j103), .second, .val (.double vv), .second, .val (.ref b109), .val (.double qh124), .second, .unset, .unset] [(.int (1 : Int32))])) _
      refine XS.goto X140.here hx rfl (pc0 := 145) (pc' := 149) rfl (hb hby at_145) (by decide) (by decide) ?_
      show Steps p.tables e below (T140.setTop (mkF m 149 #[.val (.int p0), .val (.long q1), .second, .val (.int p2), .val (.int p3), .val (.int (1 : Int32)), .val (.int (0 : Int32)), .val (.long dd), .second, .val (.long na), .second, .val (.long nb), .second, .val (.long j103), .second, .val (.double vv), .second, .val (.ref b109), .val (.double qh124), .second, .unset, .unset] [(.int (1 : Int32))])) _
      refine XS.istore X140.here hx rfl (hb hby at_149) rfl (l' := #[.val (.int p0), .val (.long q1), .second, .val (.int p2), .val (.int p3), .val (.int (1 : Int32)), .val (.int (0 : Int32)), .val (.long dd), .second, .val (.long na), .second, .val (.long nb), .second, .val (.long j103), .second, .val (.double vv), .second, .val (.ref b109), .val (.double qh124), .second, .val (.int (1 : Int32)), .unset]) rfl ?_
      show Steps p.tables e below (T140.setTop (mkF m 151 #[.val (.int p0), .val (.long q1), .second, .val (.int p2), .val (.int p3), .val (.int (1 : Int32)), .val (.int (0 : Int32)), .val (.long dd), .second, .val (.long na), .second, .val (.long nb), .second, .val (.long j103), .second, .val (.double vv), .second, .val (.ref b109), .val (.double qh124), .second, .val (.int (1 : Int32)), .unset] [])) _
      refine st143 _ ?_
      show Steps p.tables e below (T143.setTop (mkF m 154 #[.val (.int p0), .val (.long q1), .second, .val (.int p2), .val (.int p3), .val (.int (1 : Int32)), .val (.int (0 : Int32)), .val (.long dd), .second, .val (.long na), .second, .val (.long nb), .second, .val (.long j103), .second, .val (.double vv), .second, .val (.ref b109), .val (.double qh124), .second, .val (.int (1 : Int32)), .unset] [(.ref b143)])) _
      refine XS.dup X143.here hx rfl (hb hby at_154) rfl rfl ?_
      show Steps p.tables e below (T143.setTop (mkF m 155 #[.val (.int p0), .val (.long q1), .second, .val (.int p2), .val (.int p3), .val (.int (1 : Int32)), .val (.int (0 : Int32)), .val (.long dd), .second, .val (.long na), .second, .val (.long nb), .second, .val (.long j103), .second, .val (.double vv), .second, .val (.ref b109), .val (.double qh124), .second, .val (.int (1 : Int32)), .unset] [(.ref b143), (.ref b143)])) _
      refine XS.iconst X143.here hx rfl (hb hby at_155) ?_
      show Steps p.tables e below (T143.setTop (mkF m 156 #[.val (.int p0), .val (.long q1), .second, .val (.int p2), .val (.int p3), .val (.int (1 : Int32)), .val (.int (0 : Int32)), .val (.long dd), .second, .val (.long na), .second, .val (.long nb), .second, .val (.long j103), .second, .val (.double vv), .second, .val (.ref b109), .val (.double qh124), .second, .val (.int (1 : Int32)), .unset] [(.int (2 : Int32)), (.ref b143), (.ref b143)])) _
      refine st153.trans ?_
      show Steps p.tables e below (T153.setTop (mkF m 159 #[.val (.int p0), .val (.long q1), .second, .val (.int p2), .val (.int p3), .val (.int (1 : Int32)), .val (.int (0 : Int32)), .val (.long dd), .second, .val (.long na), .second, .val (.long nb), .second, .val (.long j103), .second, .val (.double vv), .second, .val (.ref b109), .val (.double qh124), .second, .val (.int (1 : Int32)), .unset] [(.ref b143)])) _
      refine XS.astore X153.here hx rfl (hb hby at_159) rfl rfl (l' := #[.val (.int p0), .val (.long q1), .second, .val (.int p2), .val (.int p3), .val (.int (1 : Int32)), .val (.int (0 : Int32)), .val (.long dd), .second, .val (.long na), .second, .val (.long nb), .second, .val (.long j103), .second, .val (.double vv), .second, .val (.ref b109), .val (.double qh124), .second, .val (.int (1 : Int32)), .val (.ref b143)]) rfl ?_
      show Steps p.tables e below (T153.setTop (mkF m 161 #[.val (.int p0), .val (.long q1), .second, .val (.int p2), .val (.int p3), .val (.int (1 : Int32)), .val (.int (0 : Int32)), .val (.long dd), .second, .val (.long na), .second, .val (.long nb), .second, .val (.long j103), .second, .val (.double vv), .second, .val (.ref b109), .val (.double qh124), .second, .val (.int (1 : Int32)), .val (.ref b143)] [])) _
      refine XS.aload X153.here hx rfl (hb hby at_161) rfl rfl ?_
      show Steps p.tables e below (T153.setTop (mkF m 163 #[.val (.int p0), .val (.long q1), .second, .val (.int p2), .val (.int p3), .val (.int (1 : Int32)), .val (.int (0 : Int32)), .val (.long dd), .second, .val (.long na), .second, .val (.long nb), .second, .val (.long j103), .second, .val (.double vv), .second, .val (.ref b109), .val (.double qh124), .second, .val (.int (1 : Int32)), .val (.ref b143)] [(.ref b143)])) _
      refine XS.dconst1 X153.here hx rfl (hb hby at_163) rfl ?_
      show Steps p.tables e below (T153.setTop (mkF m 164 #[.val (.int p0), .val (.long q1), .second, .val (.int p2), .val (.int p3), .val (.int (1 : Int32)), .val (.int (0 : Int32)), .val (.long dd), .second, .val (.long na), .second, .val (.long nb), .second, .val (.long j103), .second, .val (.double vv), .second, .val (.ref b109), .val (.double qh124), .second, .val (.int (1 : Int32)), .val (.ref b143)] [(.double FP.dconst1), (.ref b143)])) _
      refine st162.trans ?_
      show Steps p.tables e below (T162.setTop (mkF m 167 #[.val (.int p0), .val (.long q1), .second, .val (.int p2), .val (.int p3), .val (.int (1 : Int32)), .val (.int (0 : Int32)), .val (.long dd), .second, .val (.long na), .second, .val (.long nb), .second, .val (.long j103), .second, .val (.double vv), .second, .val (.ref b109), .val (.double qh124), .second, .val (.int (1 : Int32)), .val (.ref b143)] [])) _
      refine XS.aload X162.here hx rfl (hb hby at_167) rfl rfl ?_
      show Steps p.tables e below (T162.setTop (mkF m 169 #[.val (.int p0), .val (.long q1), .second, .val (.int p2), .val (.int p3), .val (.int (1 : Int32)), .val (.int (0 : Int32)), .val (.long dd), .second, .val (.long na), .second, .val (.long nb), .second, .val (.long j103), .second, .val (.double vv), .second, .val (.ref b109), .val (.double qh124), .second, .val (.int (1 : Int32)), .val (.ref b143)] [(.ref b143)])) _
      refine XS.aload X162.here hx rfl (hb hby at_169) rfl rfl ?_
      show Steps p.tables e below (T162.setTop (mkF m 171 #[.val (.int p0), .val (.long q1), .second, .val (.int p2), .val (.int p3), .val (.int (1 : Int32)), .val (.int (0 : Int32)), .val (.long dd), .second, .val (.long na), .second, .val (.long nb), .second, .val (.long j103), .second, .val (.double vv), .second, .val (.ref b109), .val (.double qh124), .second, .val (.int (1 : Int32)), .val (.ref b143)] [(.ref b109), (.ref b143)])) _
      refine st173.trans ?_
      show Steps p.tables e below (T173.setTop (mkF m 174 #[.val (.int p0), .val (.long q1), .second, .val (.int p2), .val (.int p3), .val (.int (1 : Int32)), .val (.int (0 : Int32)), .val (.long dd), .second, .val (.long na), .second, .val (.long nb), .second, .val (.long j103), .second, .val (.double vv), .second, .val (.ref b109), .val (.double qh124), .second, .val (.int (1 : Int32)), .val (.ref b143)] [])) _
      refine XS.iload X173.here hx rfl (hb hby at_174) rfl ?_
      exact kt
    obtain ⟨cq185, kq185, q185a, q185b, q185c⟩ := isOf hZ rfl fa179
    obtain ⟨_, _, ⟨T185, L185, k185, n185⟩, -, X185, ⟨Lc185, hQ185, l185, y185, z185⟩, st185⟩ := X173.virtualBack hx (y := (⟨"com/example/degree/degree/retrieval/DoubleDoubles", "rounded", "(I)D"⟩ : MethodName)) (z := (⟨"com/example/degree/degree/retrieval/DoubleDoubles", "rounded", "(I)D"⟩ : MethodName)) hown (mvT hZ (hq hw 33 rfl)) (mvT hZ (hq hw 34 rfl)) (notFace_of_selects (args := #[]) (mvT hZ (hq hw 36 rfl))) (mvT hZ (hq hw 36 rfl)) (mvT hZ (hq hw 35 rfl)) (by decide) (backOf (W := 0) (rm_rounded_1 l Z a0 hw [] b143 ha153 la153 kh153 kl153 (own_ch FP.dconst1 FP.dconst0 qh124 ql124) (own_ch FP.dconst1 FP.dconst0 vv FP.dconst0) (own_cl FP.dconst1 FP.dconst0 qh124 ql124) (own_cl FP.dconst1 FP.dconst0 vv FP.dconst0) T173.heap n0 z182 fa179 fa180 fa181 Vh173 Vl173 g_ha153 g_la153 ne_ha153_la153 ne_b143_ha153 ne_b143_la153) hZ (hq hw 37 rfl) (hq hw 5 rfl) (by decide) (by decide)) q185a q185c (g := (mkF m 183 #[.val (.int p0), .val (.long q1), .second, .val (.int p2), .val (.int p3), .val (.int (1 : Int32)), .val (.int (0 : Int32)), .val (.long dd), .second, .val (.long na), .second, .val (.long nb), .second, .val (.long j103), .second, .val (.double vv), .second, .val (.ref b109), .val (.double qh124), .second, .val (.int (1 : Int32)), .val (.ref b143)] [(.int (1 : Int32)), (.ref b143)])) rfl (by rw [hml]; rfl) (Steps.refl _) (argsL := [(.int (1 : Int32))]) (rest := []) (lenOf pd_5 rfl) rfl (by show 2 * 0 + _ ≤ _; exact Nat.le_of_eq rfl) (hb hby at_183) (fun _ _ => ⟨rfl, rfl, (by decide : 6 + 0 ≤ _), (by decide : 12 + 0 ≤ _)⟩)
    dsimp only [Pt.U, Pt.locs, Pt.cells, Pt.slots] at X185 l185 y185 z185 st185 hQ185
    subst l185 y185 z185
    obtain ⟨rfl, N185q, eh185⟩ := hQ185
    have N185 := Fr.app N173 N185q
    have G186 : ∀ t, Steps p.tables e below (T185.setTop (mkF m 191 #[.val (.int p0), .val (.long q1), .second, .val (.int p2), .val (.int p3), .val (.int (1 : Int32)), .val (.int (0 : Int32)), .val (.long dd), .second, .val (.long na), .second, .val (.long nb), .second, .val (.long j103), .second, .val (.double vv), .second, .val (.ref b109), .val (.double qh124), .second, .val (.int (1 : Int32)), .val (.ref b143)] [(.int (cmpValue (FP.dcmp (own_ch FP.dconst1 FP.dconst0 vv FP.dconst0) (FP.dsub FP.dconst1 vv)) CmpOp.l))])) t → Steps p.tables e below (s₁.setTop (entryFrame m #[(.int p0), (.long q1), (.int p2), (.int p3)] maxLocals)) t := by
      intro t kt
      refine G184 _ ?_
      show Steps p.tables e below (T173.setTop (mkF m 176 #[.val (.int p0), .val (.long q1), .second, .val (.int p2), .val (.int p3), .val (.int (1 : Int32)), .val (.int (0 : Int32)), .val (.long dd), .second, .val (.long na), .second, .val (.long nb), .second, .val (.long j103), .second, .val (.double vv), .second, .val (.ref b109), .val (.double qh124), .second, .val (.int (1 : Int32)), .val (.ref b143)] [(.int (1 : Int32))])) _
      refine XS.ifNo X173.here hx rfl (hb hby at_176) rfl ((if0 _ _).trans (feq (by decide)).1) ?_
      show Steps p.tables e below (T173.setTop (mkF m 179 #[.val (.int p0), .val (.long q1), .second, .val (.int p2), .val (.int p3), .val (.int (1 : Int32)), .val (.int (0 : Int32)), .val (.long dd), .second, .val (.long na), .second, .val (.long nb), .second, .val (.long j103), .second, .val (.double vv), .second, .val (.ref b109), .val (.double qh124), .second, .val (.int (1 : Int32)), .val (.ref b143)] [])) _
      refine XS.aload X173.here hx rfl (hb hby at_179) rfl rfl ?_
      show Steps p.tables e below (T173.setTop (mkF m 181 #[.val (.int p0), .val (.long q1), .second, .val (.int p2), .val (.int p3), .val (.int (1 : Int32)), .val (.int (0 : Int32)), .val (.long dd), .second, .val (.long na), .second, .val (.long nb), .second, .val (.long j103), .second, .val (.double vv), .second, .val (.ref b109), .val (.double qh124), .second, .val (.int (1 : Int32)), .val (.ref b143)] [(.ref b143)])) _
      refine XS.iload X173.here hx rfl (hb hby at_181) rfl ?_
      show Steps p.tables e below (T173.setTop (mkF m 183 #[.val (.int p0), .val (.long q1), .second, .val (.int p2), .val (.int p3), .val (.int (1 : Int32)), .val (.int (0 : Int32)), .val (.long dd), .second, .val (.long na), .second, .val (.long nb), .second, .val (.long j103), .second, .val (.double vv), .second, .val (.ref b109), .val (.double qh124), .second, .val (.int (1 : Int32)), .val (.ref b143)] [(.int (1 : Int32)), (.ref b143)])) _
      refine st185.trans ?_
      show Steps p.tables e below (T185.setTop (mkF m 186 #[.val (.int p0), .val (.long q1), .second, .val (.int p2), .val (.int p3), .val (.int (1 : Int32)), .val (.int (0 : Int32)), .val (.long dd), .second, .val (.long na), .second, .val (.long nb), .second, .val (.long j103), .second, .val (.double vv), .second, .val (.ref b109), .val (.double qh124), .second, .val (.int (1 : Int32)), .val (.ref b143)] [(.double (own_ch FP.dconst1 FP.dconst0 vv FP.dconst0))])) _
      refine XS.dconst1 X185.here hx rfl (hb hby at_186) rfl ?_
      show Steps p.tables e below (T185.setTop (mkF m 187 #[.val (.int p0), .val (.long q1), .second, .val (.int p2), .val (.int p3), .val (.int (1 : Int32)), .val (.int (0 : Int32)), .val (.long dd), .second, .val (.long na), .second, .val (.long nb), .second, .val (.long j103), .second, .val (.double vv), .second, .val (.ref b109), .val (.double qh124), .second, .val (.int (1 : Int32)), .val (.ref b143)] [(.double FP.dconst1), (.double (own_ch FP.dconst1 FP.dconst0 vv FP.dconst0))])) _
      refine XS.dload X185.here hx rfl (hb hby at_187) rfl ?_
      show Steps p.tables e below (T185.setTop (mkF m 189 #[.val (.int p0), .val (.long q1), .second, .val (.int p2), .val (.int p3), .val (.int (1 : Int32)), .val (.int (0 : Int32)), .val (.long dd), .second, .val (.long na), .second, .val (.long nb), .second, .val (.long j103), .second, .val (.double vv), .second, .val (.ref b109), .val (.double qh124), .second, .val (.int (1 : Int32)), .val (.ref b143)] [(.double vv), (.double FP.dconst1), (.double (own_ch FP.dconst1 FP.dconst0 vv FP.dconst0))])) _
      refine XS.dsubS X185.here hx rfl (hb hby at_189) rfl (own_sv hmr hvv) rfl ?_
      show Steps p.tables e below (T185.setTop (mkF m 190 #[.val (.int p0), .val (.long q1), .second, .val (.int p2), .val (.int p3), .val (.int (1 : Int32)), .val (.int (0 : Int32)), .val (.long dd), .second, .val (.long na), .second, .val (.long nb), .second, .val (.long j103), .second, .val (.double vv), .second, .val (.ref b109), .val (.double qh124), .second, .val (.int (1 : Int32)), .val (.ref b143)] [(.double (FP.dsub FP.dconst1 vv)), (.double (own_ch FP.dconst1 FP.dconst0 vv FP.dconst0))])) _
      refine XS.dcmpS X185.here hx rfl (hb hby at_190) rfl rfl ?_
      exact kt
    have hc191_187 : (cmpValue (FP.dcmp (own_ch FP.dconst1 FP.dconst0 vv FP.dconst0) (FP.dsub FP.dconst1 vv)) CmpOp.l) = (0 : Int32) := own_last j103 hmr.1 hmr.2 vv hvv _
    obtain ⟨fs, hr, hrun, hended, hW, hsame⟩ := X185.leave (v := some (.int (1 : Int32))) (fun h => by rw [Bd.returns] at h; cases h)
    refine ⟨_, _, G186 _ ?_, hrun, hended, _, _, rfl, ?_, ⟨_, rfl⟩, hW, hsame.mono (by decide) (by decide)⟩
    · skip
      show Steps p.tables e below (T185.setTop (mkF m 191 #[.val (.int p0), .val (.long q1), .second, .val (.int p2), .val (.int p3), .val (.int (1 : Int32)), .val (.int (0 : Int32)), .val (.long dd), .second, .val (.long na), .second, .val (.long nb), .second, .val (.long j103), .second, .val (.double vv), .second, .val (.ref b109), .val (.double qh124), .second, .val (.int (1 : Int32)), .val (.ref b143)] [(.int (cmpValue (FP.dcmp (own_ch FP.dconst1 FP.dconst0 vv FP.dconst0) (FP.dsub FP.dconst1 vv)) CmpOp.l))])) _
      refine XS.ifNo X185.here hx rfl (hb hby at_191) rfl ((if0 _ _).trans (teq hc191_187).2) ?_
      show Steps p.tables e below (T185.setTop (mkF m 194 #[.val (.int p0), .val (.long q1), .second, .val (.int p2), .val (.int p3), .val (.int (1 : Int32)), .val (.int (0 : Int32)), .val (.long dd), .second, .val (.long na), .second, .val (.long nb), .second, .val (.long j103), .second, .val (.double vv), .second, .val (.ref b109), .val (.double qh124), .second, .val (.int (1 : Int32)), .val (.ref b143)] [])) _
      refine XS.iconst X185.here hx rfl (hb hby at_194) ?_
      show Steps p.tables e below (T185.setTop (mkF m 195 #[.val (.int p0), .val (.long q1), .second, .val (.int p2), .val (.int p3), .val (.int (1 : Int32)), .val (.int (0 : Int32)), .val (.long dd), .second, .val (.long na), .second, .val (.long nb), .second, .val (.long j103), .second, .val (.double vv), .second, .val (.ref b109), .val (.double qh124), .second, .val (.int (1 : Int32)), .val (.ref b143)] [(.int (1 : Int32))])) _
      refine XS.goto X185.here hx rfl (pc0 := 195) (pc' := 199) rfl (hb hby at_195) (by decide) (by decide) ?_
      show Steps p.tables e below (T185.setTop (mkF m 199 #[.val (.int p0), .val (.long q1), .second, .val (.int p2), .val (.int p3), .val (.int (1 : Int32)), .val (.int (0 : Int32)), .val (.long dd), .second, .val (.long na), .second, .val (.long nb), .second, .val (.long j103), .second, .val (.double vv), .second, .val (.ref b109), .val (.double qh124), .second, .val (.int (1 : Int32)), .val (.ref b143)] [(.int (1 : Int32))])) _
      exact retN X185 hx (t := .boolean) Bd.returns (by simp) (hb hby at_199) hr
    · show Q0 Z p0 q1 p2 p3 h0 n0 _ T185.heap _
      rw [eh185]
      exact ⟨rfl, N185⟩
set_option maxRecDepth 65536 in
set_option maxHeartbeats 40000000 in
theorem comes_1 {Post : Tables → Env → Array Value → State → Outcome → State → Prop} (hpost : ∀ tb e args s v u, (limb_1_1.after args s (.returned v) u = true ∧ limb_1_2.after args s (.returned v) u = true ∧ True) → FrameEnd s (.returned v) u (Jvm.fieldLocs frame_1_writes args s ++ Jvm.arrayLocs frame_1_arrays args s ++ Jvm.staticLocs frame_1_statics s) 24 128 → Post tb e args s (.returned v) u) :
    ArmFor flags0 classFile x code maxLocals ret World_1 tables_1 room_1 Calls_1 rest_1 Pre_1 Post := by
  intro l hfl _ _ p e ha hc hk s m args below hf hA hF happ hP
  obtain ⟨hcalls, hrest, hpre⟩ := hP
  obtain ⟨-, -, -, hnamed, -, -, -, hat⟩ := (Spec.applies_iff hf).mp happ
  obtain ⟨hg, hn⟩ := and_e (Cond.before_iff.mp (show (Jvm.Cond.and given_1 narrow_1).before args s = true from hpre))
  obtain ⟨g1, g2⟩ := and_e hg
  obtain ⟨g3, g4⟩ := and_e g2
  obtain ⟨g5, g6⟩ := and_e g4
  obtain ⟨g7, g8⟩ := and_e g6
  obtain ⟨w0, w1, w2, w3, rfl⟩ : ∃ w0 w1 w2 w3 : Value, args = #[w0, w1, w2, w3] := by
    have hs : args.size = 4 := by simpa [Cond.value, given_1] using g1
    obtain ⟨L⟩ := args
    match L, hs with
    | [w0, w1, w2, w3], _ => exact ⟨w0, w1, w2, w3, rfl⟩
  have hw := fun d (hd : d ∈ tables_1) => atoms_spec (ws := Jvm.Cond.code x code maxLocals ret :: tables_1) hat d (List.mem_cons_of_mem _ hd)
  have hfit : Fit s := fun {y c} hc i hi => by
    obtain ⟨ha, rfl⟩ := Array.getElem?_eq_some_iff.mp hc
    have q := List.all_eq_true.mp ((Array.all_eq_true_iff_forall_mem.mp hF) _ (Array.getElem_mem ha)) i (List.mem_range.mpr hi)
    simpa [Array.getElem?_eq_getElem hi] using q
  obtain ⟨i0, ei0⟩ := is_v g3
  obtain rfl : w0 = (.int i0) := Option.some.inj ei0
  obtain ⟨i1, ei1⟩ := isL_v g5
  obtain rfl : w1 = (.long i1) := Option.some.inj ei1
  obtain ⟨i2, ei2⟩ := is_v g7
  obtain rfl : w2 = (.int i2) := Option.some.inj ei2
  obtain ⟨i3, ei3⟩ := is_v g8
  obtain rfl : w3 = (.int i3) := Option.some.inj ei3
  obtain ⟨n, o, h1, h2, h3, _, L, rfl, ⟨rfl, N⟩, hq⟩ := rm0 l s _ hw tables_1 i0 i1 i2 i3  s.heap s.heap.size (Nat.le_refl _)  p e ha hc hk s m _ below hf ((Spec.applies_iff_loose hf).mp happ).1 ⟨rfl, State.Warmed39.refl s, rfl⟩ trivial
  refine ⟨n, _, h1, h2, h3, hpost _ _ _ _ _ _ ⟨Cond.after_iff.mpr rfl, Cond.after_iff.mpr (eq_i res_at (Term.int_eval (1)) rfl), trivial⟩ ⟨hq.1, hq.2.1, (hq.2.2.sift fun y hy => Or.inr (N y hy)).mono (by decide) (by decide)⟩⟩
theorem main_1_1 : Claimed_1_1 := comes_1 fun _ _ _ _ _ _ h hF => ⟨h.1, hF⟩
theorem main_1_2 : Claimed_1_2 := comes_1 fun _ _ _ _ _ _ h hF => ⟨h.2.1, hF⟩
end Jvm.Pilot.@@N@@
namespace Jvm.Pilot.@@N@@
open Jvm Jvm.ClassFile Sem Op Lib Jvm.Free Jvm.Stand Jvm.Pilot.@@N@@.Jvm.D
/-! MADE BY PROGRAM (witnessworld.py) out of the Statement's table words and the real class files: 12 classes; the members and pool entries that the words name. The judged class is class 1, her method 1. -/
namespace start1
open Jvm.ClassFile
def u (s : String) : CpInfo := .utf8 (stringToUtf16 s)
/-- a pool by its gaps: so many unusable entries, then the entry; so many at the end -/
def gap : Nat → List CpInfo → List CpInfo
  | 0, r => r
  | n + 1, r => .unusable :: gap n r
def poolList (es : List (Nat × CpInfo)) (last : Nat) : List CpInfo := es.foldr (fun e r => gap e.1 (e.2 :: r)) (gap last [])
def pool (es : List (Nat × CpInfo)) (last : Nat) : Array CpInfo := ⟨poolList es last⟩
def fileOf (pool : Array CpInfo) (this : Nat) (attrs : Array Attribute := #[]) (ms : Array MethodInfo := #[]) (fl : Nat := 33) (sup : Nat := 0) (ifs : Array Nat := #[]) (fds : Array FieldInfo := #[]) : ClassFile where
  minorVersion := 0
  majorVersion := 65
  constantPool := pool
  accessFlags := fl
  thisClass := this
  superClass := sup
  interfaces := ifs
  fields := fds
  methods := ms
  attributes := attrs
def plain (name : String) (sup : Option ClassId) : Class where
  name := name
  kind := .ordinary
  loader := none
  accessFlags := 33
  super := sup
  interfaces := #[]
  cf := none
  fields := #[]
  methods := #[]
  instanceTypes := #[]
  staticTypes := #[]
  resolved := #[]
  callSites := []
  init := .initialized
  statics := none
  mirror := none

def pool0 : Array CpInfo := pool [(5, u "<init>"), (0, u "()V"), (1, .class_ 10), (1, u "java/lang/Object")] 113

def k0c0 : Code := { maxStack := 0, maxLocals := 1, code := object_method_1_code, exceptionTable := #[], attributes := #[] }
def k0m0 : Method := { name := "<init>", desc := "()V", sig := { parameters := [], returnType := none }, accessFlags := 1, code := some k0c0 }
/-- java/lang/Object -/
def k0 : Class := { plain "java/lang/Object" none with
  accessFlags := 33
  interfaces := #[]
  cf := some (fileOf pool0 8 #[] #[{ accessFlags := 1, nameIndex := 5, descriptorIndex := 6, attributes := #[] }] 33 0 #[] #[])
  fields := #[]
  methods := #[k0m0]
  instanceTypes := #[]
  staticTypes := #[]
  resolved := Array.replicate 124 none
  statics := none }

def pool1 : Array CpInfo := pool [(2, .class_ 4), (1, u "java/lang/Object"), (0, u "<init>"), (0, u "()V"), (0, .integer 65535), (0, .long 9007199254740991), (1, .long 9007199254740992), (1, .double 4845873199050653696), (1, .class_ 15), (0, u "com/example/degree/degree/retrieval/DoubleDoubles"), (0, .methodref 14 17), (0, .nameAndType 5 18), (0, u "(I)V"), (0, .methodref 14 20), (0, .nameAndType 21 22), (0, u "setQuotient"), (0, u "(IJJ)V"), (0, .methodref 14 24), (0, .nameAndType 25 26), (0, u "rounded"), (0, u "(I)D"), (0, .methodref 14 28), (0, .nameAndType 29 30), (0, u "set"), (0, u "(ID)V"), (0, .methodref 14 32), (0, .nameAndType 33 34), (0, u "fill"), (0, u "(D)V"), (0, .methodref 14 36), (0, .nameAndType 37 38), (0, u "multiplyByComplements"), (0, u "(Lcom/example/degree/degree/retrieval/DoubleDoubles;)V"), (0, .class_ 40), (0, u "com/example/degree/degree/retrieval/DoubleDoublesSetPinLaw"), (2, u "law"), (0, u "(IJII)Z")] 3

def k1m0 : Method := { name := "<init>", desc := "()V", sig := { parameters := [], returnType := none }, accessFlags := 1, code := none }
def k1c1 : Code := { maxStack := 6, maxLocals := 22, code := code, exceptionTable := #[], attributes := #[] }
def k1m1 : Method := { name := "law", desc := "(IJII)Z", sig := { parameters := [.int, .long, .int, .int], returnType := some .boolean }, accessFlags := 9, code := some k1c1 }
/-- com/example/degree/degree/retrieval/DoubleDoublesSetPinLaw -/
def k1 : Class := { plain "com/example/degree/degree/retrieval/DoubleDoublesSetPinLaw" (some 0) with
  accessFlags := 49
  interfaces := #[]
  cf := some (fileOf pool1 39 #[] #[{ accessFlags := 1, nameIndex := 5, descriptorIndex := 6, attributes := #[] }, { accessFlags := 9, nameIndex := 43, descriptorIndex := 44, attributes := #[] }] 49 2 #[] #[])
  fields := #[]
  methods := #[k1m0, k1m1]
  instanceTypes := #[]
  staticTypes := #[]
  resolved := Array.replicate 48 none
  statics := none }

def pool2 : Array CpInfo := pool [(1, .methodref 2 3), (0, .class_ 4), (0, .nameAndType 5 6), (0, u "java/lang/Object"), (0, u "<init>"), (0, u "()V"), (0, .fieldref 8 9), (0, .class_ 10), (0, .nameAndType 11 12), (0, u "com/example/degree/degree/retrieval/DoubleDoubles"), (0, u "high"), (0, u "[D"), (0, .fieldref 8 14), (0, .nameAndType 15 12), (0, u "low"), (0, .methodref 17 18), (0, .class_ 19), (0, .nameAndType 20 21), (0, u "java/util/Arrays"), (0, u "fill"), (0, u "([DD)V"), (0, .methodref 8 23), (0, .nameAndType 24 25), (0, u "twoProductError"), (0, u "(DDD)D"), (0, .methodref 8 27), (0, .nameAndType 28 29), (0, u "setNormalised"), (0, u "(IDD)V"), (0, .methodref 8 31), (0, .nameAndType 32 25), (0, u "twoSumError"), (0, .methodref 8 34), (0, .nameAndType 35 29), (0, u "multiply"), (0, .methodref 8 37), (0, .nameAndType 38 29), (0, u "multiplyByComplement"), (0, .double 4728779608772575232), (1, u "SPLITTER"), (0, u "D"), (1, u "(I)V"), (2, u "(D)V"), (0, u "set"), (0, u "(ID)V"), (0, u "setQuotient"), (0, u "(IJJ)V"), (2, u "(Lcom/example/degree/degree/retrieval/DoubleDoubles;)V"), (1, u "multiplyByComplements"), (1, u "rounded"), (0, u "(I)D")] 2

def k2c0 : Code := { maxStack := 2, maxLocals := 2, code := prog_43_method_1_code, exceptionTable := #[], attributes := #[] }
def k2m0 : Method := { name := "<init>", desc := "(I)V", sig := { parameters := [.int], returnType := none }, accessFlags := 0, code := some k2c0 }
def k2c1 : Code := { maxStack := 3, maxLocals := 3, code := prog_43_method_2_code, exceptionTable := #[], attributes := #[] }
def k2m1 : Method := { name := "fill", desc := "(D)V", sig := { parameters := [.double], returnType := none }, accessFlags := 0, code := some k2c1 }
def k2c2 : Code := { maxStack := 4, maxLocals := 4, code := prog_43_method_3_code, exceptionTable := #[], attributes := #[] }
def k2m2 : Method := { name := "set", desc := "(ID)V", sig := { parameters := [.int, .double], returnType := none }, accessFlags := 0, code := some k2c2 }
def k2c3 : Code := { maxStack := 8, maxLocals := 18, code := prog_43_method_4_code, exceptionTable := #[], attributes := #[] }
def k2m3 : Method := { name := "setQuotient", desc := "(IJJ)V", sig := { parameters := [.int, .long, .long], returnType := none }, accessFlags := 0, code := some k2c3 }
def k2c4 : Code := { maxStack := 6, maxLocals := 3, code := prog_43_method_8_code, exceptionTable := #[], attributes := #[] }
def k2m4 : Method := { name := "multiplyByComplements", desc := "(Lcom/example/degree/degree/retrieval/DoubleDoubles;)V", sig := { parameters := [(.object "com/example/degree/degree/retrieval/DoubleDoubles")], returnType := none }, accessFlags := 0, code := some k2c4 }
def k2c5 : Code := { maxStack := 2, maxLocals := 2, code := prog_43_method_10_code, exceptionTable := #[], attributes := #[] }
def k2m5 : Method := { name := "rounded", desc := "(I)D", sig := { parameters := [.int], returnType := some .double }, accessFlags := 0, code := some k2c5 }
def k2c6 : Code := { maxStack := 8, maxLocals := 12, code := prog_43_method_11_code, exceptionTable := #[], attributes := #[] }
def k2m6 : Method := { name := "multiply", desc := "(IDD)V", sig := { parameters := [.int, .double, .double], returnType := none }, accessFlags := 2, code := some k2c6 }
def k2c7 : Code := { maxStack := 10, maxLocals := 12, code := prog_43_method_12_code, exceptionTable := #[], attributes := #[] }
def k2m7 : Method := { name := "multiplyByComplement", desc := "(IDD)V", sig := { parameters := [.int, .double, .double], returnType := none }, accessFlags := 2, code := some k2c7 }
def k2c8 : Code := { maxStack := 8, maxLocals := 8, code := prog_43_method_13_code, exceptionTable := #[], attributes := #[] }
def k2m8 : Method := { name := "setNormalised", desc := "(IDD)V", sig := { parameters := [.int, .double, .double], returnType := none }, accessFlags := 2, code := some k2c8 }
def k2c9 : Code := { maxStack := 6, maxLocals := 10, code := prog_43_method_14_code, exceptionTable := #[], attributes := #[] }
def k2m9 : Method := { name := "twoSumError", desc := "(DDD)D", sig := { parameters := [.double, .double, .double], returnType := some .double }, accessFlags := 10, code := some k2c9 }
def k2c10 : Code := { maxStack := 6, maxLocals := 18, code := prog_43_method_15_code, exceptionTable := #[], attributes := #[] }
def k2m10 : Method := { name := "twoProductError", desc := "(DDD)D", sig := { parameters := [.double, .double, .double], returnType := some .double }, accessFlags := 10, code := some k2c10 }
/-- com/example/degree/degree/retrieval/DoubleDoubles -/
def k2 : Class := { plain "com/example/degree/degree/retrieval/DoubleDoubles" (some 0) with
  accessFlags := 48
  interfaces := #[]
  cf := some (fileOf pool2 8 #[] #[{ accessFlags := 0, nameIndex := 5, descriptorIndex := 44, attributes := #[] }, { accessFlags := 0, nameIndex := 20, descriptorIndex := 47, attributes := #[] }, { accessFlags := 0, nameIndex := 48, descriptorIndex := 49, attributes := #[] }, { accessFlags := 0, nameIndex := 50, descriptorIndex := 51, attributes := #[] }, { accessFlags := 0, nameIndex := 56, descriptorIndex := 54, attributes := #[] }, { accessFlags := 0, nameIndex := 58, descriptorIndex := 59, attributes := #[] }, { accessFlags := 2, nameIndex := 35, descriptorIndex := 29, attributes := #[] }, { accessFlags := 2, nameIndex := 38, descriptorIndex := 29, attributes := #[] }, { accessFlags := 2, nameIndex := 28, descriptorIndex := 29, attributes := #[] }, { accessFlags := 10, nameIndex := 32, descriptorIndex := 25, attributes := #[] }, { accessFlags := 10, nameIndex := 24, descriptorIndex := 25, attributes := #[] }] 48 2 #[] #[{ accessFlags := 26, nameIndex := 41, descriptorIndex := 42, attributes := #[] }, { accessFlags := 18, nameIndex := 11, descriptorIndex := 12, attributes := #[] }, { accessFlags := 18, nameIndex := 15, descriptorIndex := 12, attributes := #[] }])
  fields := #[{ name := "SPLITTER", type := .double, accessFlags := 26, slot := 0, constantValue := 0 }, { name := "high", type := (.array .double), accessFlags := 18, slot := 0, constantValue := 0 }, { name := "low", type := (.array .double), accessFlags := 18, slot := 1, constantValue := 0 }]
  methods := #[k2m0, k2m1, k2m2, k2m3, k2m4, k2m5, k2m6, k2m7, k2m8, k2m9, k2m10]
  instanceTypes := #[(.array .double), (.array .double)]
  staticTypes := #[.double]
  resolved := Array.replicate 62 none
  statics := none }

def pool3 : Array CpInfo := pool [(2, .class_ 4), (1, u "java/lang/Object"), (0, u "<init>"), (0, u "()V"), (7, .class_ 16), (1, u "java/util/Arrays"), (57, .class_ 76), (1, u "java/util/Arrays$NaturalOrder"), (36, .class_ 115), (1, u "java/util/Arrays$LegacyMergeSort"), (1, u "Z"), (257, .class_ 376), (0, u "java/util/Arrays$ArrayList"), (68, u "$assertionsDisabled"), (269, u "MIN_ARRAY_SORT_GRAN"), (0, u "I"), (2, u "INSERTIONSORT_THRESHOLD"), (120, u "fill"), (13, u "([DD)V"), (120, .class_ 976), (0, u "java/util/Arrays$ArrayItr")] 52

def k3m0 : Method := { name := "<init>", desc := "()V", sig := { parameters := [], returnType := none }, accessFlags := 2, code := none }
def k3c1 : Code := { maxStack := 4, maxLocals := 5, code := jdk_65_method_113_code, exceptionTable := #[], attributes := #[] }
def k3m1 : Method := { name := "fill", desc := "([DD)V", sig := { parameters := [(.array .double), .double], returnType := none }, accessFlags := 9, code := some k3c1 }
/-- java/util/Arrays -/
def k3 : Class := { plain "java/util/Arrays" (some 0) with
  accessFlags := 49
  interfaces := #[]
  cf := some (fileOf pool3 14 #[.nestMembers #[975, 375, 113, 74]] #[{ accessFlags := 2, nameIndex := 5, descriptorIndex := 6, attributes := #[] }, { accessFlags := 9, nameIndex := 840, descriptorIndex := 854, attributes := #[] }] 49 2 #[] #[{ accessFlags := 26, nameIndex := 715, descriptorIndex := 716, attributes := #[] }, { accessFlags := 26, nameIndex := 719, descriptorIndex := 716, attributes := #[] }, { accessFlags := 4120, nameIndex := 445, descriptorIndex := 117, attributes := #[] }])
  fields := #[{ name := "MIN_ARRAY_SORT_GRAN", type := .int, accessFlags := 26, slot := 0, constantValue := 0 }, { name := "INSERTIONSORT_THRESHOLD", type := .int, accessFlags := 26, slot := 1, constantValue := 0 }, { name := "$assertionsDisabled", type := .boolean, accessFlags := 4120, slot := 2, constantValue := 0 }]
  methods := #[k3m0, k3m1]
  instanceTypes := #[]
  staticTypes := #[.int, .int, .boolean]
  resolved := Array.replicate 1029 none
  statics := none }

def pool4 : Array CpInfo := pool [(1, u "java/lang/Cloneable"), (0, .class_ 1), (0, u "java/lang/Object"), (0, .class_ 3)] 3

/-- java/lang/Cloneable -/
def k4 : Class := { plain "java/lang/Cloneable" (some 0) with
  accessFlags := 1537
  interfaces := #[]
  cf := some (fileOf pool4 2 #[] #[] 1537 4 #[] #[])
  fields := #[]
  methods := #[]
  instanceTypes := #[]
  staticTypes := #[]
  resolved := Array.replicate 8 none
  statics := none }

def pool5 : Array CpInfo := pool [(1, u "java/io/Serializable"), (0, .class_ 1), (0, u "java/lang/Object"), (0, .class_ 3)] 3

/-- java/io/Serializable -/
def k5 : Class := { plain "java/io/Serializable" (some 0) with
  accessFlags := 1537
  interfaces := #[]
  cf := some (fileOf pool5 2 #[] #[] 1537 4 #[] #[])
  fields := #[]
  methods := #[]
  instanceTypes := #[]
  staticTypes := #[]
  resolved := Array.replicate 8 none
  statics := none }

/-- the primitive byte -/
def k6 : Class := { plain "byte" none with kind := .primitive 'B', accessFlags := 0x411 }
/-- [B -/
def k7 : Class := { plain "[B" (some 0) with kind := .array 6 .byte, interfaces := #[4, 5], accessFlags := 1041 }

/-- the primitive double -/
def k8 : Class := { plain "double" none with kind := .primitive 'D', accessFlags := 0x411 }
/-- [D -/
def k9 : Class := { plain "[D" (some 0) with kind := .array 8 .double, interfaces := #[4, 5], accessFlags := 1041 }

/-- the primitive int -/
def k10 : Class := { plain "int" none with kind := .primitive 'I', accessFlags := 0x411 }
/-- [I -/
def k11 : Class := { plain "[I" (some 0) with kind := .array 10 .int, interfaces := #[4, 5], accessFlags := 1041 }

def heap : Heap := #[]
def classes : Array Class := #[k0, k1, k2, k3, k4, k5, k6, k7, k8, k9, k10, k11]
def interned : List (Array UInt16 × Addr) := []
def slotsUsed : Nat := 0
def theMethod : MethodId := ⟨1, 1⟩
def args0 : Array Value := #[.int 1, .long 5, .int 196613, .int 0]
def aboutOver (below : List Frame) : State where
  vm := { classes := classes, interned := interned.toArray }
  heap := heap
  slotsUsed := slotsUsed
  threads := #[{ frames := .invoking theMethod args0 :: below }]
def below0 : List Frame := [.native { method := ⟨0, 0⟩, args := #[] }]
def about1 : State := aboutOver below0
def p0 : Program := .bare "" "" ""
def e0 : Env := launch0.env 0 0 0
theorem w_frames : about1.frames = Frame.invoking theMethod args0 :: below0 := rfl
set_option maxRecDepth 65536 in
theorem w_args : argsFit about1.vm theMethod args0 = true := by decide +kernel
set_option maxRecDepth 65536 in
theorem w_heap : heapFits about1 = true := by decide +kernel
set_option maxRecDepth 65536 in
theorem w_runnable : about1.curStatus? = some .runnable := by decide +kernel
set_option maxRecDepth 65536 in
theorem w_alone : about1.alone = true := by decide +kernel
set_option maxRecDepth 65536 in
theorem w_named : about1.methodNamed? x = some theMethod := by decide +kernel
set_option maxRecDepth 65536 in
theorem w_hears : about1.hears theMethod below0 = true := by decide +kernel
set_option maxRecDepth 65536 in
theorem w_ripe : about1.ripe theMethod args0 below0 = true := by decide +kernel
theorem w_running : about1.status = .running := rfl
set_option maxRecDepth 65536 in
theorem w_room : about1.hasRoom e0.platform room_1 = true :=
  launch0.hasRoom_least _ room_1 (by decide +kernel) (by decide +kernel) (by decide +kernel) (by decide +kernel) (by decide +kernel) (by decide +kernel)
theorem allAtoms_all (ts : List Jvm.Cond) (a : Array Jvm.Value) (st : Jvm.State) : (allAtoms ts).before a st = ts.all (fun c => c.before a st) := by
  induction ts with
  | nil => rfl
  | cons c t ih =>
    show (Jvm.Cond.and c (allAtoms t)).before a st = _
    rw [Jvm.Cond.before_and, ih, List.all_cons]
def words1 : List Jvm.Cond := Jvm.Cond.code x code maxLocals ret :: tables_1
/-- a 'code' word, met by the world's own term for the bytes: nothing is compared byte by byte -/
theorem code_word {y : MethodName} {bytes : ByteArray} {mx : Nat} {rt : Option FieldType} {a : Array Value} {s : State} {m : MethodId} {meth : Method} {c : Code} (h1 : s.methodNamed? y = some m) (h2 : s.vm.method? m = some meth) (h3 : meth.code = some c) (h4 : c.code = bytes)
    (h5 : (c.maxLocals == mx && c.exceptionTable.isEmpty && decide (c.maxStack ≤ mostOperands) && decide (meth.sig.returnType = rt) && !meth.locks && decide (parseMethodDescriptor y.desc = some meth.sig)) = true) : (Jvm.Cond.code y bytes mx rt).before a s = true := by
  simp only [Bool.and_eq_true, beq_iff_eq, Bool.not_eq_true', decide_eq_true_eq] at h5
  obtain ⟨⟨⟨⟨⟨g1, g2⟩, g3⟩, g4⟩, g5⟩, g6⟩ := h5
  simp [Cond.before, Cond.holds, Cond.value, h1, h2, h3, h4, g1, g2, g3, g4, g5, g6]
def isCode : Jvm.Cond → Bool
  | .code _ _ _ _ => true
  | _ => false
theorem all_split {L : List Jvm.Cond} {P : Jvm.Cond → Bool} (h1 : L.all (fun c => isCode c || P c) = true) (h2 : ∀ c ∈ L.filter isCode, P c = true) : L.all P = true := by
  refine List.all_eq_true.mpr fun c hc => ?_
  have h := List.all_eq_true.mp h1 c hc
  rcases Bool.eq_false_or_eq_true (isCode c) with hi | hi
  · exact h2 c (List.mem_filter.mpr ⟨hc, hi⟩)
  · simpa [hi] using h
set_option maxRecDepth 65536 in
theorem w_c0 : (Jvm.Cond.code x code maxLocals ret).before args0 about1 = true := code_word (m := ⟨1, 1⟩) (meth := k1m1) (c := k1c1) (by decide +kernel) rfl rfl rfl (by decide +kernel)
set_option maxRecDepth 65536 in
theorem w_c1 : (Jvm.Cond.code ({ cls := "com/example/degree/degree/retrieval/DoubleDoubles", name := "<init>", desc := "(I)V" } : Jvm.MethodName) prog_43_method_1_code (2 : Nat) (Option.none : Option Jvm.ClassFile.FieldType)).before args0 about1 = true := code_word (m := ⟨2, 0⟩) (meth := k2m0) (c := k2c0) (by decide +kernel) rfl rfl rfl (by decide +kernel)
set_option maxRecDepth 65536 in
theorem w_c2 : (Jvm.Cond.code ({ cls := "java/lang/Object", name := "<init>", desc := "()V" } : Jvm.MethodName) object_method_1_code (1 : Nat) (Option.none : Option Jvm.ClassFile.FieldType)).before args0 about1 = true := code_word (m := ⟨0, 0⟩) (meth := k0m0) (c := k0c0) (by decide +kernel) rfl rfl rfl (by decide +kernel)
set_option maxRecDepth 65536 in
theorem w_c3 : (Jvm.Cond.code ({ cls := "com/example/degree/degree/retrieval/DoubleDoubles", name := "setQuotient", desc := "(IJJ)V" } : Jvm.MethodName) prog_43_method_4_code (18 : Nat) (Option.none : Option Jvm.ClassFile.FieldType)).before args0 about1 = true := code_word (m := ⟨2, 3⟩) (meth := k2m3) (c := k2c3) (by decide +kernel) rfl rfl rfl (by decide +kernel)
set_option maxRecDepth 65536 in
theorem w_c4 : (Jvm.Cond.code ({ cls := "com/example/degree/degree/retrieval/DoubleDoubles", name := "twoProductError", desc := "(DDD)D" } : Jvm.MethodName) prog_43_method_15_code (18 : Nat) (Option.some Jvm.ClassFile.FieldType.double)).before args0 about1 = true := code_word (m := ⟨2, 10⟩) (meth := k2m10) (c := k2c10) (by decide +kernel) rfl rfl rfl (by decide +kernel)
set_option maxRecDepth 65536 in
theorem w_c5 : (Jvm.Cond.code ({ cls := "com/example/degree/degree/retrieval/DoubleDoubles", name := "setNormalised", desc := "(IDD)V" } : Jvm.MethodName) prog_43_method_13_code (8 : Nat) (Option.none : Option Jvm.ClassFile.FieldType)).before args0 about1 = true := code_word (m := ⟨2, 8⟩) (meth := k2m8) (c := k2c8) (by decide +kernel) rfl rfl rfl (by decide +kernel)
set_option maxRecDepth 65536 in
theorem w_c6 : (Jvm.Cond.code ({ cls := "com/example/degree/degree/retrieval/DoubleDoubles", name := "twoSumError", desc := "(DDD)D" } : Jvm.MethodName) prog_43_method_14_code (10 : Nat) (Option.some Jvm.ClassFile.FieldType.double)).before args0 about1 = true := code_word (m := ⟨2, 9⟩) (meth := k2m9) (c := k2c9) (by decide +kernel) rfl rfl rfl (by decide +kernel)
set_option maxRecDepth 65536 in
theorem w_c7 : (Jvm.Cond.code ({ cls := "com/example/degree/degree/retrieval/DoubleDoubles", name := "rounded", desc := "(I)D" } : Jvm.MethodName) prog_43_method_10_code (2 : Nat) (Option.some Jvm.ClassFile.FieldType.double)).before args0 about1 = true := code_word (m := ⟨2, 5⟩) (meth := k2m5) (c := k2c5) (by decide +kernel) rfl rfl rfl (by decide +kernel)
set_option maxRecDepth 65536 in
theorem w_c8 : (Jvm.Cond.code ({ cls := "com/example/degree/degree/retrieval/DoubleDoubles", name := "set", desc := "(ID)V" } : Jvm.MethodName) prog_43_method_3_code (4 : Nat) (Option.none : Option Jvm.ClassFile.FieldType)).before args0 about1 = true := code_word (m := ⟨2, 2⟩) (meth := k2m2) (c := k2c2) (by decide +kernel) rfl rfl rfl (by decide +kernel)
set_option maxRecDepth 65536 in
theorem w_c9 : (Jvm.Cond.code ({ cls := "com/example/degree/degree/retrieval/DoubleDoubles", name := "fill", desc := "(D)V" } : Jvm.MethodName) prog_43_method_2_code (3 : Nat) (Option.none : Option Jvm.ClassFile.FieldType)).before args0 about1 = true := code_word (m := ⟨2, 1⟩) (meth := k2m1) (c := k2c1) (by decide +kernel) rfl rfl rfl (by decide +kernel)
set_option maxRecDepth 65536 in
theorem w_c10 : (Jvm.Cond.code ({ cls := "java/util/Arrays", name := "fill", desc := "([DD)V" } : Jvm.MethodName) jdk_65_method_113_code (5 : Nat) (Option.none : Option Jvm.ClassFile.FieldType)).before args0 about1 = true := code_word (m := ⟨3, 1⟩) (meth := k3m1) (c := k3c1) (by decide +kernel) rfl rfl rfl (by decide +kernel)
set_option maxRecDepth 65536 in
theorem w_c11 : (Jvm.Cond.code ({ cls := "com/example/degree/degree/retrieval/DoubleDoubles", name := "multiplyByComplements", desc := "(Lcom/example/degree/degree/retrieval/DoubleDoubles;)V" } : Jvm.MethodName) prog_43_method_8_code (3 : Nat) (Option.none : Option Jvm.ClassFile.FieldType)).before args0 about1 = true := code_word (m := ⟨2, 4⟩) (meth := k2m4) (c := k2c4) (by decide +kernel) rfl rfl rfl (by decide +kernel)
set_option maxRecDepth 65536 in
theorem w_c12 : (Jvm.Cond.code ({ cls := "com/example/degree/degree/retrieval/DoubleDoubles", name := "multiplyByComplement", desc := "(IDD)V" } : Jvm.MethodName) prog_43_method_12_code (12 : Nat) (Option.none : Option Jvm.ClassFile.FieldType)).before args0 about1 = true := code_word (m := ⟨2, 7⟩) (meth := k2m7) (c := k2c7) (by decide +kernel) rfl rfl rfl (by decide +kernel)
set_option maxRecDepth 65536 in
theorem w_c13 : (Jvm.Cond.code ({ cls := "com/example/degree/degree/retrieval/DoubleDoubles", name := "multiply", desc := "(IDD)V" } : Jvm.MethodName) prog_43_method_11_code (12 : Nat) (Option.none : Option Jvm.ClassFile.FieldType)).before args0 about1 = true := code_word (m := ⟨2, 6⟩) (meth := k2m6) (c := k2c6) (by decide +kernel) rfl rfl rfl (by decide +kernel)
def codes1 : List Jvm.Cond := [Jvm.Cond.code x code maxLocals ret, Jvm.Cond.code ({ cls := "com/example/degree/degree/retrieval/DoubleDoubles", name := "<init>", desc := "(I)V" } : Jvm.MethodName) prog_43_method_1_code (2 : Nat) (Option.none : Option Jvm.ClassFile.FieldType), Jvm.Cond.code ({ cls := "java/lang/Object", name := "<init>", desc := "()V" } : Jvm.MethodName) object_method_1_code (1 : Nat) (Option.none : Option Jvm.ClassFile.FieldType), Jvm.Cond.code ({ cls := "com/example/degree/degree/retrieval/DoubleDoubles", name := "setQuotient", desc := "(IJJ)V" } : Jvm.MethodName) prog_43_method_4_code (18 : Nat) (Option.none : Option Jvm.ClassFile.FieldType), Jvm.Cond.code ({ cls := "com/example/degree/degree/retrieval/DoubleDoubles", name := "twoProductError", desc := "(DDD)D" } : Jvm.MethodName) prog_43_method_15_code (18 : Nat) (Option.some Jvm.ClassFile.FieldType.double), Jvm.Cond.code ({ cls := "com/example/degree/degree/retrieval/DoubleDoubles", name := "setNormalised", desc := "(IDD)V" } : Jvm.MethodName) prog_43_method_13_code (8 : Nat) (Option.none : Option Jvm.ClassFile.FieldType), Jvm.Cond.code ({ cls := "com/example/degree/degree/retrieval/DoubleDoubles", name := "twoSumError", desc := "(DDD)D" } : Jvm.MethodName) prog_43_method_14_code (10 : Nat) (Option.some Jvm.ClassFile.FieldType.double), Jvm.Cond.code ({ cls := "com/example/degree/degree/retrieval/DoubleDoubles", name := "rounded", desc := "(I)D" } : Jvm.MethodName) prog_43_method_10_code (2 : Nat) (Option.some Jvm.ClassFile.FieldType.double), Jvm.Cond.code ({ cls := "com/example/degree/degree/retrieval/DoubleDoubles", name := "set", desc := "(ID)V" } : Jvm.MethodName) prog_43_method_3_code (4 : Nat) (Option.none : Option Jvm.ClassFile.FieldType), Jvm.Cond.code ({ cls := "com/example/degree/degree/retrieval/DoubleDoubles", name := "fill", desc := "(D)V" } : Jvm.MethodName) prog_43_method_2_code (3 : Nat) (Option.none : Option Jvm.ClassFile.FieldType), Jvm.Cond.code ({ cls := "java/util/Arrays", name := "fill", desc := "([DD)V" } : Jvm.MethodName) jdk_65_method_113_code (5 : Nat) (Option.none : Option Jvm.ClassFile.FieldType), Jvm.Cond.code ({ cls := "com/example/degree/degree/retrieval/DoubleDoubles", name := "multiplyByComplements", desc := "(Lcom/example/degree/degree/retrieval/DoubleDoubles;)V" } : Jvm.MethodName) prog_43_method_8_code (3 : Nat) (Option.none : Option Jvm.ClassFile.FieldType), Jvm.Cond.code ({ cls := "com/example/degree/degree/retrieval/DoubleDoubles", name := "multiplyByComplement", desc := "(IDD)V" } : Jvm.MethodName) prog_43_method_12_code (12 : Nat) (Option.none : Option Jvm.ClassFile.FieldType), Jvm.Cond.code ({ cls := "com/example/degree/degree/retrieval/DoubleDoubles", name := "multiply", desc := "(IDD)V" } : Jvm.MethodName) prog_43_method_11_code (12 : Nat) (Option.none : Option Jvm.ClassFile.FieldType)]
set_option maxRecDepth 65536 in
theorem codes_eq : words1.filter isCode = codes1 := rfl
theorem w_codes : ∀ c ∈ words1.filter isCode, c.before args0 about1 = true := by
  rw [codes_eq]
  intro c hc
  simp only [codes1, List.mem_cons, List.not_mem_nil, or_false] at hc
  rcases hc with rfl | rfl | rfl | rfl | rfl | rfl | rfl | rfl | rfl | rfl | rfl | rfl | rfl | rfl
  · exact w_c0
  · exact w_c1
  · exact w_c2
  · exact w_c3
  · exact w_c4
  · exact w_c5
  · exact w_c6
  · exact w_c7
  · exact w_c8
  · exact w_c9
  · exact w_c10
  · exact w_c11
  · exact w_c12
  · exact w_c13
set_option maxRecDepth 65536 in
theorem w_t1 : (words1.take 24).all (fun c => isCode c || c.before args0 about1) = true := by decide +kernel
set_option maxRecDepth 65536 in
theorem w_t2 : ((words1.drop 24).take 24).all (fun c => isCode c || c.before args0 about1) = true := by decide +kernel
set_option maxRecDepth 65536 in
theorem w_t3 : ((words1.drop 24).drop 24).all (fun c => isCode c || c.before args0 about1) = true := by decide +kernel
theorem w_tables : (allAtoms (Jvm.Cond.code x code maxLocals ret :: tables_1)).before args0 about1 = true := by
  rw [allAtoms_all]
  show words1.all (fun c => c.before args0 about1) = true
  refine all_split ?_ w_codes
  rw [← List.take_append_drop 24 words1, List.all_append, w_t1, ← List.take_append_drop 24 (words1.drop 24), List.all_append, w_t2, w_t3]
  rfl
set_option maxRecDepth 65536 in
theorem w_case : (Jvm.Cond.and given_1 narrow_1).before args0 about1 = true := by decide +kernel
theorem w_applies : (headSpec (Jvm.Cond.code x code maxLocals ret :: tables_1) room_1).applies x e0.platform about1 = true :=
  (Spec.applies_iff w_frames).mpr ⟨w_running, w_runnable, w_alone, w_named, w_hears, w_ripe, w_room, w_tables⟩
theorem atStart : AtStart classFile x code maxLocals ret World_1 tables_1 room_1 Calls_1 rest_1 Pre_1 launch0 p0 e0 about1 theMethod args0 below0 :=
  ⟨lists_1, trivial, launch0.admits_env _ _ _, launch0.least_env, fairChoices_fair.cas, fairChoices_fair.clock, w_frames, w_args, w_heap, w_applies, trivial, trivial, w_case⟩
end start1
theorem witness_1 : WitnessClaimed_1 := ⟨start1.p0, start1.e0, start1.about1, start1.theMethod, start1.args0, start1.below0, start1.atStart⟩
end Jvm.Pilot.@@N@@
